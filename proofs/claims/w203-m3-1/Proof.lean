import JvmDerived
import JvmDerived.Pilot.@@N@@Statement
import JvmDerived.Pilot.@@N@@Code
set_option linter.unusedVariables false
set_option linter.unusedSimpArgs false
namespace Jvm.Pilot.@@N@@
open Jvm Jvm.ClassFile Sem Op Lib Jvm.Free Jvm.Stand Jvm.LawKit Jvm.RoadKit Bundle Jvm.Pilot.@@N@@.Jvm.D
def own_Go (p : Program) (e : Env) (below : List Frame) (G : State → Outcome → Prop) (σ : State) : Prop := ∃ U o, Steps p.tables e below σ U ∧ U.status = .running ∧ Ended U below o ∧ G U o
theorem own_go {p : Program} {e : Env} {below : List Frame} {G : State → Outcome → Prop} {σ σ' : State} (h : ∀ t, Steps p.tables e below σ' t → Steps p.tables e below σ t) (k : own_Go p e below G σ') : own_Go p e below G σ := by
  obtain ⟨U, o, h1, h2⟩ := k
  exact ⟨U, o, h _ h1, h2⟩
def own_Post (s : State) (Q : Option Value → Heap → List Loc → Prop) (C S : Nat) (U : State) (o : Outcome) : Prop := ∃ v L, o = .returned v ∧ Q v U.heap L ∧ FrameEnd s o U L C S
theorem own_ltL {x y : Int64} (h : x < y) : ifCond.holds .lt (lcmpW x y) = true ∧ ifCond.holds .ge (lcmpW x y) = false := by
  have q := (lw_lt x y).mpr h
  exact ⟨(if0 _ _).trans (tlt q).1, (if0 _ _).trans (tlt q).2.1⟩
theorem own_nltL {x y : Int64} (h : ¬ x < y) : ifCond.holds .lt (lcmpW x y) = false ∧ ifCond.holds .ge (lcmpW x y) = true := by
  have q := fun z => h ((lw_lt x y).mp z)
  exact ⟨(if0 _ _).trans (flt q).1, (if0 _ _).trans (flt q).2.1⟩
section OwnSteps
variable {p : Program} {l : Launch} {e : Env} {R : Room} {s : State} {m : MethodId} {args : Array Value} {below : List Frame} {meth : Method} {c : Code} {T : State} {locs : List Loc} {cells slots : Nat} {G : State → Outcome → Prop} {Ls : Array Slot} {rest : List Value} {pc : Nat}
theorem own_iloadN (X : Stand p l e R s m args below meth c T locs cells slots) (hx : p.tables.exec = Jvm.exec) {i : Fin 4} {v : Int32} (hd : decode c.code pc = .ok (.iload_n i, 1)) (hl : Ls[i.val]? = some (.val (.int v))) (pc' : Nat) (hp : pc + 1 = pc') (k : own_Go p e below G (T.setTop (mkF m pc' Ls (.int v :: rest)))) : own_Go p e below G (T.setTop (mkF m pc Ls (rest))) := by
  subst hp; exact own_go (fun t q => XS.iloadN X.here hx rfl hd hl q) k
theorem own_iload (X : Stand p l e R s m args below meth c T locs cells slots) (hx : p.tables.exec = Jvm.exec) {i : Nat} {v : Int32} (hd : decode c.code pc = .ok (.iload i, 2)) (hl : Ls[i]? = some (.val (.int v))) (pc' : Nat) (hp : pc + 2 = pc') (k : own_Go p e below G (T.setTop (mkF m pc' Ls (.int v :: rest)))) : own_Go p e below G (T.setTop (mkF m pc Ls (rest))) := by
  subst hp; exact own_go (fun t q => XS.iload X.here hx rfl hd hl q) k
theorem own_lloadN (X : Stand p l e R s m args below meth c T locs cells slots) (hx : p.tables.exec = Jvm.exec) {i : Fin 4} {v : Int64} (hd : decode c.code pc = .ok (.lload_n i, 1)) (hl : Ls[i.val]? = some (.val (.long v))) (pc' : Nat) (hp : pc + 1 = pc') (k : own_Go p e below G (T.setTop (mkF m pc' Ls (.long v :: rest)))) : own_Go p e below G (T.setTop (mkF m pc Ls (rest))) := by
  subst hp; exact own_go (fun t q => XS.lloadN X.here hx rfl hd hl q) k
theorem own_lload (X : Stand p l e R s m args below meth c T locs cells slots) (hx : p.tables.exec = Jvm.exec) {i : Nat} {v : Int64} (hd : decode c.code pc = .ok (.lload i, 2)) (hl : Ls[i]? = some (.val (.long v))) (pc' : Nat) (hp : pc + 2 = pc') (k : own_Go p e below G (T.setTop (mkF m pc' Ls (.long v :: rest)))) : own_Go p e below G (T.setTop (mkF m pc Ls (rest))) := by
  subst hp; exact own_go (fun t q => XS.lload X.here hx rfl hd hl q) k
theorem own_aloadN (X : Stand p l e R s m args below meth c T locs cells slots) (hx : p.tables.exec = Jvm.exec) {i : Fin 4} {v : Value} (hd : decode c.code pc = .ok (.aload_n i, 1)) (hl : Ls[i.val]? = some (.val v)) (hv : v.isRef = true) (pc' : Nat) (hp : pc + 1 = pc') (k : own_Go p e below G (T.setTop (mkF m pc' Ls (v :: rest)))) : own_Go p e below G (T.setTop (mkF m pc Ls (rest))) := by
  subst hp; exact own_go (fun t q => XS.aloadN X.here hx rfl hd hl hv q) k
theorem own_aload (X : Stand p l e R s m args below meth c T locs cells slots) (hx : p.tables.exec = Jvm.exec) {i : Nat} {v : Value} (hd : decode c.code pc = .ok (.aload i, 2)) (hl : Ls[i]? = some (.val v)) (hv : v.isRef = true) (pc' : Nat) (hp : pc + 2 = pc') (k : own_Go p e below G (T.setTop (mkF m pc' Ls (v :: rest)))) : own_Go p e below G (T.setTop (mkF m pc Ls (rest))) := by
  subst hp; exact own_go (fun t q => XS.aload X.here hx rfl hd hl hv q) k
theorem own_istore (X : Stand p l e R s m args below meth c T locs cells slots) (hx : p.tables.exec = Jvm.exec) {i : Nat} {v : Int32} (hd : decode c.code pc = .ok (.istore i, 2)) (l' : Array Slot) (hl : storeLocals Ls i (.int v) = some l') (pc' : Nat) (hp : pc + 2 = pc') (k : own_Go p e below G (T.setTop (mkF m pc' l' (rest)))) : own_Go p e below G (T.setTop (mkF m pc Ls (.int v :: rest))) := by
  subst hp; exact own_go (fun t q => XS.istore X.here hx rfl hd rfl hl q) k
theorem own_lstoreN (X : Stand p l e R s m args below meth c T locs cells slots) (hx : p.tables.exec = Jvm.exec) {i : Fin 4} {v : Int64} (hd : decode c.code pc = .ok (.lstore_n i, 1)) (l' : Array Slot) (hl : storeLocals Ls i.val (.long v) = some l') (pc' : Nat) (hp : pc + 1 = pc') (k : own_Go p e below G (T.setTop (mkF m pc' l' (rest)))) : own_Go p e below G (T.setTop (mkF m pc Ls (.long v :: rest))) := by
  subst hp; exact own_go (fun t q => XS.lstoreN X.here hx rfl hd rfl hl q) k
theorem own_lstore (X : Stand p l e R s m args below meth c T locs cells slots) (hx : p.tables.exec = Jvm.exec) {i : Nat} {v : Int64} (hd : decode c.code pc = .ok (.lstore i, 2)) (l' : Array Slot) (hl : storeLocals Ls i (.long v) = some l') (pc' : Nat) (hp : pc + 2 = pc') (k : own_Go p e below G (T.setTop (mkF m pc' l' (rest)))) : own_Go p e below G (T.setTop (mkF m pc Ls (.long v :: rest))) := by
  subst hp; exact own_go (fun t q => XS.lstore X.here hx rfl hd rfl hl q) k
theorem own_astoreN (X : Stand p l e R s m args below meth c T locs cells slots) (hx : p.tables.exec = Jvm.exec) {i : Fin 4} {v : Value} (hd : decode c.code pc = .ok (.astore_n i, 1)) (hv : v.isRef = true) (l' : Array Slot) (hl : storeLocals Ls i.val v = some l') (pc' : Nat) (hp : pc + 1 = pc') (k : own_Go p e below G (T.setTop (mkF m pc' l' (rest)))) : own_Go p e below G (T.setTop (mkF m pc Ls (v :: rest))) := by
  subst hp; exact own_go (fun t q => XS.astoreN X.here hx rfl hd rfl hv hl q) k
theorem own_astore (X : Stand p l e R s m args below meth c T locs cells slots) (hx : p.tables.exec = Jvm.exec) {i : Nat} {v : Value} (hd : decode c.code pc = .ok (.astore i, 2)) (hv : v.isRef = true) (l' : Array Slot) (hl : storeLocals Ls i v = some l') (pc' : Nat) (hp : pc + 2 = pc') (k : own_Go p e below G (T.setTop (mkF m pc' l' (rest)))) : own_Go p e below G (T.setTop (mkF m pc Ls (v :: rest))) := by
  subst hp; exact own_go (fun t q => XS.astore X.here hx rfl hd rfl hv hl q) k
theorem own_iconst (X : Stand p l e R s m args below meth c T locs cells slots) (hx : p.tables.exec = Jvm.exec) {i : Int} (hd : decode c.code pc = .ok (.iconst i, 1)) (v : Int32) (hv : v = Int32.ofInt i) (pc' : Nat) (hp : pc + 1 = pc') (k : own_Go p e below G (T.setTop (mkF m pc' Ls (.int v :: rest)))) : own_Go p e below G (T.setTop (mkF m pc Ls (rest))) := by
  subst hp; exact own_go (fun t q => XS.iconst X.here hx rfl hd (hv ▸ q)) k
theorem own_bipush (X : Stand p l e R s m args below meth c T locs cells slots) (hx : p.tables.exec = Jvm.exec) {i : Int} (hd : decode c.code pc = .ok (.bipush i, 2)) (v : Int32) (hv : v = (Int8.ofInt i).toInt32) (pc' : Nat) (hp : pc + 2 = pc') (k : own_Go p e below G (T.setTop (mkF m pc' Ls (.int v :: rest)))) : own_Go p e below G (T.setTop (mkF m pc Ls (rest))) := by
  subst hp; exact own_go (fun t q => XS.bipush X.here hx rfl hd (hv ▸ q)) k
theorem own_lconst (X : Stand p l e R s m args below meth c T locs cells slots) (hx : p.tables.exec = Jvm.exec) {i : Fin 2} (hd : decode c.code pc = .ok (.lconst i, 1)) (v : Int64) (hv : v = Int64.ofNat i) (pc' : Nat) (hp : pc + 1 = pc') (k : own_Go p e below G (T.setTop (mkF m pc' Ls (.long v :: rest)))) : own_Go p e below G (T.setTop (mkF m pc Ls (rest))) := by
  subst hp; exact own_go (fun t q => XS.lconst X.here hx rfl hd (hv ▸ q)) k
theorem own_ldc2Long (X : Stand p l e R s m args below meth c T locs cells slots) (hx : p.tables.exec = Jvm.exec) {own : String} {index : Nat} {v : Int64} (hown : s.vm.findClass own = some m.cls) (hc : (Cond.constantLong own index v).before args s = true) (hd : decode c.code pc = .ok (.ldc2_w index, 3)) (pc' : Nat) (hp : pc + 3 = pc') (k : own_Go p e below G (T.setTop (mkF m pc' Ls (.long v :: rest)))) : own_Go p e below G (T.setTop (mkF m pc Ls rest)) := by
  subst hp; exact own_go (X.ldc2Long hx hown hc (g := mkF m pc Ls rest) rfl hd) k
theorem own_iadd (X : Stand p l e R s m args below meth c T locs cells slots) (hx : p.tables.exec = Jvm.exec) {x y : Int32} (hd : decode c.code pc = .ok (.iadd, 1)) (pc' : Nat) (hp : pc + 1 = pc') (k : own_Go p e below G (T.setTop (mkF m pc' Ls (.int (x + y) :: rest)))) : own_Go p e below G (T.setTop (mkF m pc Ls (.int y :: .int x :: rest))) := by
  subst hp; exact own_go (fun t q => XS.iadd X.here hx rfl hd rfl q) k
theorem own_isub (X : Stand p l e R s m args below meth c T locs cells slots) (hx : p.tables.exec = Jvm.exec) {x y : Int32} (hd : decode c.code pc = .ok (.isub, 1)) (pc' : Nat) (hp : pc + 1 = pc') (k : own_Go p e below G (T.setTop (mkF m pc' Ls (.int (x - y) :: rest)))) : own_Go p e below G (T.setTop (mkF m pc Ls (.int y :: .int x :: rest))) := by
  subst hp; exact own_go (fun t q => XS.isub X.here hx rfl hd rfl q) k
theorem own_imul (X : Stand p l e R s m args below meth c T locs cells slots) (hx : p.tables.exec = Jvm.exec) {x y : Int32} (hd : decode c.code pc = .ok (.imul, 1)) (pc' : Nat) (hp : pc + 1 = pc') (k : own_Go p e below G (T.setTop (mkF m pc' Ls (.int (x * y) :: rest)))) : own_Go p e below G (T.setTop (mkF m pc Ls (.int y :: .int x :: rest))) := by
  subst hp; exact own_go (fun t q => XS.imul X.here hx rfl hd rfl q) k
theorem own_iand (X : Stand p l e R s m args below meth c T locs cells slots) (hx : p.tables.exec = Jvm.exec) {x y : Int32} (hd : decode c.code pc = .ok (.iand, 1)) (pc' : Nat) (hp : pc + 1 = pc') (k : own_Go p e below G (T.setTop (mkF m pc' Ls (.int (x &&& y) :: rest)))) : own_Go p e below G (T.setTop (mkF m pc Ls (.int y :: .int x :: rest))) := by
  subst hp; exact own_go (fun t q => XS.iand X.here hx rfl hd rfl q) k
theorem own_land (X : Stand p l e R s m args below meth c T locs cells slots) (hx : p.tables.exec = Jvm.exec) {x y : Int64} (hd : decode c.code pc = .ok (.land, 1)) (pc' : Nat) (hp : pc + 1 = pc') (k : own_Go p e below G (T.setTop (mkF m pc' Ls (.long (x &&& y) :: rest)))) : own_Go p e below G (T.setTop (mkF m pc Ls (.long y :: .long x :: rest))) := by
  subst hp; exact own_go (fun t q => XS.land X.here hx rfl hd rfl q) k
theorem own_lor (X : Stand p l e R s m args below meth c T locs cells slots) (hx : p.tables.exec = Jvm.exec) {x y : Int64} (hd : decode c.code pc = .ok (.lor, 1)) (pc' : Nat) (hp : pc + 1 = pc') (k : own_Go p e below G (T.setTop (mkF m pc' Ls (.long (x ||| y) :: rest)))) : own_Go p e below G (T.setTop (mkF m pc Ls (.long y :: .long x :: rest))) := by
  subst hp; exact own_go (fun t q => XS.lor X.here hx rfl hd rfl q) k
theorem own_lushr (X : Stand p l e R s m args below meth c T locs cells slots) (hx : p.tables.exec = Jvm.exec) {x : Int64} {y : Int32} (hd : decode c.code pc = .ok (.lushr, 1)) (pc' : Nat) (hp : pc + 1 = pc') (k : own_Go p e below G (T.setTop (mkF m pc' Ls (.long ((x.toUInt64 >>> (y &&& 0x3f).toInt64.toUInt64).toInt64) :: rest)))) : own_Go p e below G (T.setTop (mkF m pc Ls (.int y :: .long x :: rest))) := by
  subst hp; exact own_go (fun t q => XS.lushr X.here hx rfl hd rfl q) k
theorem own_l2i (X : Stand p l e R s m args below meth c T locs cells slots) (hx : p.tables.exec = Jvm.exec) {x : Int64} (hd : decode c.code pc = .ok (.l2i, 1)) (pc' : Nat) (hp : pc + 1 = pc') (k : own_Go p e below G (T.setTop (mkF m pc' Ls (.int x.toInt32 :: rest)))) : own_Go p e below G (T.setTop (mkF m pc Ls (.long x :: rest))) := by
  subst hp; exact own_go (fun t q => XS.l2i X.here hx rfl hd rfl q) k
theorem own_i2b (X : Stand p l e R s m args below meth c T locs cells slots) (hx : p.tables.exec = Jvm.exec) {x : Int32} (hd : decode c.code pc = .ok (.i2b, 1)) (pc' : Nat) (hp : pc + 1 = pc') (k : own_Go p e below G (T.setTop (mkF m pc' Ls (.int x.toInt8.toInt32 :: rest)))) : own_Go p e below G (T.setTop (mkF m pc Ls (.int x :: rest))) := by
  subst hp; exact own_go (fun t q => XS.i2b X.here hx rfl hd rfl q) k
theorem own_dup (X : Stand p l e R s m args below meth c T locs cells slots) (hx : p.tables.exec = Jvm.exec) {x : Value} (hd : decode c.code pc = .ok (.dup, 1)) (hc : x.category = 1) (pc' : Nat) (hp : pc + 1 = pc') (k : own_Go p e below G (T.setTop (mkF m pc' Ls (x :: x :: rest)))) : own_Go p e below G (T.setTop (mkF m pc Ls (x :: rest))) := by
  subst hp; exact own_go (fun t q => XS.dup X.here hx rfl hd rfl hc q) k
theorem own_dupX1 (X : Stand p l e R s m args below meth c T locs cells slots) (hx : p.tables.exec = Jvm.exec) {x y : Value} (hd : decode c.code pc = .ok (.dup_x1, 1)) (hc : x.category = 1) (hc' : y.category = 1) (pc' : Nat) (hp : pc + 1 = pc') (k : own_Go p e below G (T.setTop (mkF m pc' Ls (x :: y :: x :: rest)))) : own_Go p e below G (T.setTop (mkF m pc Ls (x :: y :: rest))) := by
  subst hp; exact own_go (fun t q => XS.dupX1 X.here hx rfl hd rfl hc hc' q) k
theorem own_lcmp (X : Stand p l e R s m args below meth c T locs cells slots) (hx : p.tables.exec = Jvm.exec) {x y : Int64} (hd : decode c.code pc = .ok (.lcmp, 1)) (pc' : Nat) (hp : pc + 1 = pc') (k : own_Go p e below G (T.setTop (mkF m pc' Ls (.int (lcmpW x y) :: rest)))) : own_Go p e below G (T.setTop (mkF m pc Ls (.long y :: .long x :: rest))) := by
  subst hp; exact own_go (fun t q => XS.lcmp X.here hx rfl hd rfl q) k
theorem own_goto (X : Stand p l e R s m args below meth c T locs cells slots) (hx : p.tables.exec = Jvm.exec) {o : Int} (hd : decode c.code pc = .ok (.goto o, 3)) (pc' : Nat) (hp : 0 ≤ (pc : Int) + o ∧ ((pc : Int) + o).toNat = pc') (k : own_Go p e below G (T.setTop (mkF m pc' Ls rest))) : own_Go p e below G (T.setTop (mkF m pc Ls rest)) :=
  own_go (fun t q => XS.goto X.here hx rfl (pc0 := pc) (pc' := pc') rfl hd hp.1 hp.2 q) k
theorem own_ifY (X : Stand p l e R s m args below meth c T locs cells slots) (hx : p.tables.exec = Jvm.exec) {o : Int} {cd : ClassFile.Cond} {x : Int32} (hd : decode c.code pc = .ok (.ifCond cd o, 3)) (hc : ifCond.holds cd x = true) (pc' : Nat) (hp : 0 ≤ (pc : Int) + o ∧ ((pc : Int) + o).toNat = pc') (k : own_Go p e below G (T.setTop (mkF m pc' Ls rest))) : own_Go p e below G (T.setTop (mkF m pc Ls (.int x :: rest))) :=
  own_go (fun t q => XS.ifYes X.here hx rfl (pc0 := pc) (pc' := pc') rfl hd rfl hc hp.1 hp.2 q) k
theorem own_ifN (X : Stand p l e R s m args below meth c T locs cells slots) (hx : p.tables.exec = Jvm.exec) {o : Int} {cd : ClassFile.Cond} {x : Int32} (hd : decode c.code pc = .ok (.ifCond cd o, 3)) (hc : ifCond.holds cd x = false) (pc' : Nat) (hp : pc + 3 = pc') (k : own_Go p e below G (T.setTop (mkF m pc' Ls (rest)))) : own_Go p e below G (T.setTop (mkF m pc Ls (.int x :: rest))) := by
  subst hp; exact own_go (fun t q => XS.ifNo X.here hx rfl hd rfl hc q) k
theorem own_icmpY (X : Stand p l e R s m args below meth c T locs cells slots) (hx : p.tables.exec = Jvm.exec) {o : Int} {cd : ClassFile.Cond} {x y : Int32} (hd : decode c.code pc = .ok (.if_icmp cd o, 3)) (hc : if_icmp.holds cd x y = true) (pc' : Nat) (hp : 0 ≤ (pc : Int) + o ∧ ((pc : Int) + o).toNat = pc') (k : own_Go p e below G (T.setTop (mkF m pc' Ls rest))) : own_Go p e below G (T.setTop (mkF m pc Ls (.int y :: .int x :: rest))) :=
  own_go (fun t q => XS.icmpYes X.here hx rfl (pc0 := pc) (pc' := pc') rfl hd rfl hc hp.1 hp.2 q) k
theorem own_icmpN (X : Stand p l e R s m args below meth c T locs cells slots) (hx : p.tables.exec = Jvm.exec) {o : Int} {cd : ClassFile.Cond} {x y : Int32} (hd : decode c.code pc = .ok (.if_icmp cd o, 3)) (hc : if_icmp.holds cd x y = false) (pc' : Nat) (hp : pc + 3 = pc') (k : own_Go p e below G (T.setTop (mkF m pc' Ls (rest)))) : own_Go p e below G (T.setTop (mkF m pc Ls (.int y :: .int x :: rest))) := by
  subst hp; exact own_go (fun t q => XS.icmpNo X.here hx rfl hd rfl hc q) k
theorem own_ret {f : JFrame} {Q : Option Value → Heap → List Loc → Prop} {C S : Nat} (X : Stand p l e R s m args below meth c T locs cells slots) (hlk : meth.locks = false) (hG : own_Post s Q C S = G) {v : Option Value} (hv : meth.sig.returnType = none → v = none)
    (st : ∀ fs, (∀ (f : JFrame) (acts : List Action), f.method = m → f.locked = none → f.entered = [] → (doReturn e (T.setTop f) acts v).1 = T.setFrames fs) → Steps p.tables e below (T.setTop f) (T.setFrames fs)) (hc : cells ≤ C) (hs : slots ≤ S) (hq : Q v T.heap locs) : own_Go p e below G (T.setTop f) := by
  subst hG
  obtain ⟨fs, hr, hrun, hended, hW, hsame⟩ := X.leave (v := v) hv hlk
  exact ⟨_, _, st fs hr, hrun, hended, _, _, rfl, hq, ⟨_, rfl⟩, hW, hsame.mono hc hs⟩
theorem own_ireturn {z : Int32} {Q : Option Value → Heap → List Loc → Prop} {C S : Nat} (X : Stand p l e R s m args below meth c T locs cells slots) (hx : p.tables.exec = Jvm.exec) (hlk : meth.locks = false) (hG : own_Post s Q C S = G) (hret : meth.sig.returnType = some .int) (hd : decode c.code pc = .ok (.ireturn, 1)) (hc : cells ≤ C) (hs : slots ≤ S) (hq : Q (some (.int z)) T.heap locs) : own_Go p e below G (T.setTop (mkF m pc Ls (.int z :: rest))) :=
  own_ret X hlk hG (fun h => by rw [hret] at h; cases h) (fun fs hr => retOut X hx hret rfl (Or.inl ⟨rfl, Or.inl rfl, _, rfl⟩) hd hr) hc hs hq
theorem own_nreturn {z : Int32} {ty : FieldType} {Q : Option Value → Heap → List Loc → Prop} {C S : Nat} (X : Stand p l e R s m args below meth c T locs cells slots) (hx : p.tables.exec = Jvm.exec) (hlk : meth.locks = false) (hG : own_Post s Q C S = G) (hret : meth.sig.returnType = some ty) (ht : ty = .boolean ∨ ty = .byte ∨ ty = .char ∨ ty = .short) (hd : decode c.code pc = .ok (.ireturn, 1)) (hc : cells ≤ C) (hs : slots ≤ S) (hq : Q (some (.int (nar ty z))) T.heap locs) : own_Go p e below G (T.setTop (mkF m pc Ls (.int z :: rest))) :=
  own_ret X hlk hG (fun h => by rw [hret] at h; cases h) (fun fs hr => retN X hx hret ht hd hr) hc hs hq
theorem own_areturn {w : Value} {ty : FieldType} {Q : Option Value → Heap → List Loc → Prop} {C S : Nat} (X : Stand p l e R s m args below meth c T locs cells slots) (hx : p.tables.exec = Jvm.exec) (hlk : meth.locks = false) (hG : own_Post s Q C S = G) (hret : meth.sig.returnType = some ty) (ht : ty.isReference = true) (hn : narrow ty w = w) (hw : w.isRef = true) (hd : decode c.code pc = .ok (.areturn, 1)) (hc : cells ≤ C) (hs : slots ≤ S) (hq : Q (some w) T.heap locs) : own_Go p e below G (T.setTop (mkF m pc Ls (w :: rest))) :=
  own_ret X hlk hG (fun h => by rw [hret] at h; cases h) (fun fs hr => retOut X hx hret hn (Or.inr (Or.inr (Or.inr (Or.inr ⟨rfl, ht, hw⟩)))) hd hr) hc hs hq
theorem own_return {Q : Option Value → Heap → List Loc → Prop} {C S : Nat} (X : Stand p l e R s m args below meth c T locs cells slots) (hx : p.tables.exec = Jvm.exec) (hlk : meth.locks = false) (hG : own_Post s Q C S = G) (hret : meth.sig.returnType = none) (hd : decode c.code pc = .ok (.return_, 1)) (hc : cells ≤ C) (hs : slots ≤ S) (hq : Q none T.heap locs) : own_Go p e below G (T.setTop (mkF m pc Ls [])) :=
  own_ret X hlk hG (fun _ => rfl) (fun fs hr => X.returnOut hx hret hd hr) hc hs hq
variable {Z : State} {a0 : Array Value} {h : Heap}
theorem own_getF (X : Stand p l e R s m args below meth c T locs cells slots) (hx : p.tables.exec = Jvm.exec) (hZ : Z.Warmed39 s.vm) {own R0 O n d : String} {index : Nat} (hown : s.vm.findClass own = some m.cls) (w : (Cond.fieldLink own index R0 n d).before a0 Z = true) (via : Via Z R0 O n d) (eT : T.heap = h) {a : Addr} {v : Value} (F : Fld Z h a O n d v) (hd : decode c.code pc = .ok (.getfield index, 3)) (pc' : Nat) (hp : pc + 3 = pc')
    (k : ∀ T' : State, Stand p l e R s m args below meth c T' locs cells slots → T'.heap = h → own_Go p e below G (T'.setTop (mkF m pc' Ls (v :: rest)))) : own_Go p e below G (T.setTop (mkF m pc Ls (.ref a :: rest))) := by
  subst hp
  obtain ⟨T', X', e', st⟩ := getF X hx hZ hown (host := "") (Or.inl w) via eT F (g := mkF m pc Ls (.ref a :: rest)) rfl rfl hd
  exact own_go st (k T' X' e')
theorem own_putF (X : Stand p l e R s m args below meth c T locs cells slots) (hx : p.tables.exec = Jvm.exec) (hZ : Z.Warmed39 s.vm) {own R0 O n d C : String} {index kk : Nat} {ty : FieldType} (hown : s.vm.findClass own = some m.cls) (w : (Cond.fieldLink own index R0 n d).before a0 Z = true) (via : Via Z R0 O n d) (eT : T.heap = h) {a : Addr} {v v' old : Value} (F : Fld Z h a O n d old) (E : Exa Z h a C) (L : (Cond.lays C O n d).before a0 Z = true ∨ ((Cond.laysFinal C O n d).before a0 Z = true ∧ own = O ∧ meth.name = "<init>")) (wi : (Cond.instantiable C kk).before a0 Z = true) (hty : parseFieldDescriptor d = some ty) (hn : narrow ty v = v') (hf : fits ty v' = true) (hd : decode c.code pc = .ok (.putfield index, 3)) (pc' : Nat) (hp : pc + 3 = pc')
    (k : ∀ (T' : State) (h' : Heap), Stand p l e R s m args below meth c T' (locs ++ [⟨a, Jvm.RoadKit.slotOf Z O n d⟩]) cells slots → T'.heap = h' → Wr h h' a (Jvm.RoadKit.slotOf Z O n d) v' → own_Go p e below G (T'.setTop (mkF m pc' Ls rest))) : own_Go p e below G (T.setTop (mkF m pc Ls (v :: .ref a :: rest))) := by
  subst hp
  obtain ⟨T', h', X', e', W, st⟩ := putFN X hx hZ hown w via eT F E L wi hty hn hf (g := mkF m pc Ls (v :: .ref a :: rest)) rfl rfl hd
  exact own_go st (k T' h' X' e' W)
theorem own_newO (X : Stand p l e R s m args below meth c T locs cells slots) (hx : p.tables.exec = Jvm.exec) (hZ : Z.Warmed39 s.vm) {own C : String} {index n : Nat} (hown : s.vm.findClass own = some m.cls) (w : (Cond.classLink own index C).before a0 Z = true) (wi : (Cond.instantiable C n).before a0 Z = true) (wz : (Cond.initialized C).before a0 Z = true) (eT : T.heap = h) (hd : decode c.code pc = .ok (.new index, 3)) (hc : cells + 1 ≤ R.cells) (hl : slots + n ≤ R.slots) (pc' : Nat) (hp : pc + 3 = pc')
    (k : ∀ (T' : State) (h' : Heap) (a' : Addr), a' = h.size → Stand p l e R s m args below meth c T' locs (cells + 1) (slots + n) → T'.heap = h' → Ext h h' → Exa Z h' a' C → (∀ {O nm d : String} {ty : FieldType}, Laid Z a0 C O nm d → parseFieldDescriptor d = some ty → Fld Z h' a' O nm d (defaultValue ty)) → own_Go p e below G (T'.setTop (mkF m pc' Ls (.ref a' :: rest)))) : own_Go p e below G (T.setTop (mkF m pc Ls rest)) := by
  subst hp
  obtain ⟨T', h', X', e', E', A', D', -, st⟩ := newO X hx hZ hown w wi wz eT (g := mkF m pc Ls rest) rfl hd hc hl
  exact own_go st (k T' h' _ rfl X' e' E' A' D')
theorem own_initO (X : Stand p l e R s m args below meth c T locs cells slots) (hx : p.tables.exec = Jvm.exec) (hZ : Z.Warmed39 s.vm) {own : String} {idx : Nat} (hown : s.vm.findClass own = some m.cls) (w1 : (Cond.methodLink own idx Lib.objectInit).before a0 Z = true) (w2 : (Cond.instanceMethod Lib.objectInit).before a0 Z = true) (w3 : (Cond.code Lib.objectInit object_method_1_code 1 none).before a0 Z = true) (eT : T.heap = h) (hsize : Ls.size = c.maxLocals) {a : Addr} (hd : decode c.code pc = .ok (.invokespecial idx, 3)) (hf : 1 ≤ R.frames) (W : Nat) (hW : (rest.map fun v => v.category).sum ≤ W) (hl : W + 12 ≤ R.locals) (pc' : Nat) (hp : pc + 3 = pc')
    (k : ∀ T' : State, Stand p l e R s m args below meth c T' locs cells slots → T'.heap = h → own_Go p e below G (T'.setTop (mkF m pc' Ls rest))) : own_Go p e below G (T.setTop (mkF m pc Ls (.ref a :: rest))) := by
  subst hp
  obtain ⟨T', X', e', st⟩ := initO X hx hZ hown w1 w2 w3 eT (g := mkF m pc Ls (.ref a :: rest)) rfl hsize rfl hd hf (W := W) (by show 2 * 0 + _ ≤ W; rw [Nat.mul_zero, Nat.zero_add]; exact hW) hl
  exact own_go st (k T' X' e')
theorem own_callS {bytes : ByteArray} {maxL : Nat} {ret : Option FieldType} {rm : Room} {y : MethodName} {argsL : List Value} {Q : Option Value → Heap → List Loc → Prop} (X : Stand p l e R s m args below meth c T locs cells slots) (hx : p.tables.exec = Jvm.exec) (hZ : Z.Warmed39 s.vm) {own : String} {index : Nat} (hown : s.vm.findClass own = some m.cls) (w1 : (Cond.methodLink own index y).before a0 Z = true) (w2 : (Cond.static y).before a0 Z = true) (w3 : (Cond.initialized y.cls).before a0 Z = true) (w4 : (Cond.code y bytes maxL ret).before a0 Z = true) (hy : y.cls ≠ "java/lang/invoke/MethodHandle" ∧ y.cls ≠ "java/lang/invoke/VarHandle") (eT : T.heap = h)
    (hM : MetFree l y (head1 [Cond.code y bytes maxL ret] rm) (fun a U => a = argsL.toArray ∧ Z.Warmed39 U.vm ∧ U.heap = h) (fun _ _ _ _ _ => True) (fun _ U o U' => ∃ v L, o = .returned v ∧ Q v U'.heap L ∧ FrameEnd U o U' L rm.cells rm.slots))
    (hsize : Ls.size = c.maxLocals) {ps : List FieldType} {rt : Option FieldType} (hdesc : parseMethodDescriptor y.desc = some ⟨ps, rt⟩) (hlen : argsL.length = ps.length) {st : List Value} (hst : st = argsL.reverse ++ rest) (hd : decode c.code pc = .ok (.invokestatic index, 3)) (W : Nat) (hW : (rest.map fun v => v.category).sum ≤ W) (hf : rm.frames + 1 ≤ R.frames) (hl : W + (maxL + 11) + rm.locals ≤ R.locals) (hc : cells + rm.cells ≤ R.cells) (hs : slots + rm.slots ≤ R.slots) (pc' : Nat) (hp : pc + 3 = pc')
    (k : ∀ (T' : State) (L : List Loc) (v : Option Value), Stand p l e R s m args below meth c T' (locs ++ L) (cells + rm.cells) (slots + rm.slots) → Q v T'.heap L → own_Go p e below G (T'.setTop (mkF m pc' Ls (v.toList ++ rest)))) : own_Go p e below G (T.setTop (mkF m pc Ls st)) := by
  subst hp hst
  obtain ⟨v, _, ⟨T', L', k', n'⟩, -, X', ⟨Lc, hQ, l', y', z'⟩, st⟩ := Jvm.LawKit.callS X hx hown (mvT hZ w1) (mvT hZ w2) (mvT hZ w3) (mvT hZ w4) hy (backOf (W := W) hM hZ w4 w3 hf hl) (g := mkF m pc Ls (argsL.reverse ++ rest)) rfl hsize (argsL := argsL) (rest := rest) (lenOf hdesc hlen) rfl (by show 2 * 0 + _ ≤ W; rw [Nat.mul_zero, Nat.zero_add]; exact hW) hd (fun _ _ => ⟨rfl, eT, hc, hs⟩)
  dsimp only [Pt.U, Pt.locs, Pt.cells, Pt.slots] at X' l' y' z' st hQ
  subst l' y' z'
  exact own_go st (k T' Lc v X' hQ)
theorem own_callI {bytes : ByteArray} {maxL : Nat} {rm : Room} {y : MethodName} {argsL : List Value} {Q : Option Value → Heap → List Loc → Prop} (X : Stand p l e R s m args below meth c T locs cells slots) (hx : p.tables.exec = Jvm.exec) (hZ : Z.Warmed39 s.vm) (hy1 : y.name = "<init>") {own : String} {index : Nat} (hown : s.vm.findClass own = some m.cls) (w1 : (Cond.methodLink own index y).before a0 Z = true) (w2 : (Cond.instanceMethod y).before a0 Z = true) (w3 : (Cond.initialized y.cls).before a0 Z = true) (w4 : (Cond.code y bytes maxL none).before a0 Z = true) (hy : y.cls ≠ "java/lang/invoke/MethodHandle" ∧ y.cls ≠ "java/lang/invoke/VarHandle") (eT : T.heap = h) {b : Addr}
    (hM : MetFree l y (head1 [Cond.code y bytes maxL none] rm) (fun a U => a = (.ref b :: argsL).toArray ∧ Z.Warmed39 U.vm ∧ U.heap = h) (fun _ _ _ _ _ => True) (fun _ U o U' => ∃ v L, o = .returned v ∧ Q v U'.heap L ∧ FrameEnd U o U' L rm.cells rm.slots))
    (hsize : Ls.size = c.maxLocals) {ps : List FieldType} {rt : Option FieldType} (hdesc : parseMethodDescriptor y.desc = some ⟨ps, rt⟩) (hlen : argsL.length = ps.length) {st : List Value} (hst : st = argsL.reverse ++ .ref b :: rest) (hd : decode c.code pc = .ok (.invokespecial index, 3)) (W : Nat) (hW : (rest.map fun v => v.category).sum ≤ W) (hf : rm.frames + 1 ≤ R.frames) (hl : W + (maxL + 11) + rm.locals ≤ R.locals) (hc : cells + rm.cells ≤ R.cells) (hs : slots + rm.slots ≤ R.slots) (pc' : Nat) (hp : pc + 3 = pc')
    (k : ∀ (T' : State) (L : List Loc) (v : Option Value), Stand p l e R s m args below meth c T' (locs ++ L) (cells + rm.cells) (slots + rm.slots) → Q v T'.heap L → own_Go p e below G (T'.setTop (mkF m pc' Ls (v.toList ++ rest)))) : own_Go p e below G (T.setTop (mkF m pc Ls st)) := by
  subst hp hst
  obtain ⟨v, _, ⟨T', L', k', n'⟩, -, X', ⟨Lc, hQ, l', y', z'⟩, st⟩ := X.specialBack hx hy1 hown (mvT hZ w1) (mvT hZ w2) (mvT hZ w4) hy (backOf (W := W) hM hZ w4 w3 hf hl) (g := mkF m pc Ls (argsL.reverse ++ .ref b :: rest)) rfl hsize (Steps.refl _) (a := b) (argsL := argsL) (rest := rest) (lenOf hdesc hlen) rfl (by show 2 * 0 + _ ≤ W; rw [Nat.mul_zero, Nat.zero_add]; exact hW) hd (fun _ _ => ⟨rfl, eT, hc, hs⟩)
  dsimp only [Pt.U, Pt.locs, Pt.cells, Pt.slots] at X' l' y' z' st hQ
  subst l' y' z'
  exact own_go (fun t q => st.trans q) (k T' Lc v X' hQ)
theorem own_callV {bytes : ByteArray} {maxL : Nat} {ret : Option FieldType} {rm : Room} {y z : MethodName} {argsL : List Value} {Q : Option Value → Heap → List Loc → Prop} (X : Stand p l e R s m args below meth c T locs cells slots) (hx : p.tables.exec = Jvm.exec) (hZ : Z.Warmed39 s.vm) {own C : String} {index : Nat} (hown : s.vm.findClass own = some m.cls) (w1 : (Cond.methodLink own index y).before a0 Z = true) (w2 : (Cond.declares y).before a0 Z = true) (w5 : (Cond.selects C y z).before a0 Z = true) (nf : NotFace s y) (w6 : (Cond.instanceMethod z).before a0 Z = true) (w3 : (Cond.initialized z.cls).before a0 Z = true) (w4 : (Cond.code z bytes maxL ret).before a0 Z = true) (hy : y.cls ≠ "java/lang/invoke/MethodHandle" ∧ y.cls ≠ "java/lang/invoke/VarHandle") (eT : T.heap = h) {b : Addr} (E : Exa Z h b C)
    (hM : MetFree l z (head1 [Cond.code z bytes maxL ret] rm) (fun a U => a = (.ref b :: argsL).toArray ∧ Z.Warmed39 U.vm ∧ U.heap = h) (fun _ _ _ _ _ => True) (fun _ U o U' => ∃ v L, o = .returned v ∧ Q v U'.heap L ∧ FrameEnd U o U' L rm.cells rm.slots))
    (hsize : Ls.size = c.maxLocals) {ps : List FieldType} {rt : Option FieldType} (hdesc : parseMethodDescriptor y.desc = some ⟨ps, rt⟩) (hlen : argsL.length = ps.length) {st : List Value} (hst : st = argsL.reverse ++ .ref b :: rest) (hd : decode c.code pc = .ok (.invokevirtual index, 3)) (W : Nat) (hW : (rest.map fun v => v.category).sum ≤ W) (hf : rm.frames + 1 ≤ R.frames) (hl : W + (maxL + 11) + rm.locals ≤ R.locals) (hc : cells + rm.cells ≤ R.cells) (hs : slots + rm.slots ≤ R.slots) (pc' : Nat) (hp : pc + 3 = pc')
    (k : ∀ (T' : State) (L : List Loc) (v : Option Value), Stand p l e R s m args below meth c T' (locs ++ L) (cells + rm.cells) (slots + rm.slots) → Q v T'.heap L → own_Go p e below G (T'.setTop (mkF m pc' Ls (v.toList ++ rest)))) : own_Go p e below G (T.setTop (mkF m pc Ls st)) := by
  subst hp hst
  obtain ⟨cq, kq, qa, qb, qc⟩ := isOf hZ eT E
  obtain ⟨v, _, ⟨T', L', k', n'⟩, -, X', ⟨Lc, hQ, l', y', z'⟩, st⟩ := X.virtualBack hx (y := y) (z := z) hown (mvT hZ w1) (mvT hZ w2) nf (mvT hZ w5) (mvT hZ w6) hy (backOf (W := W) hM hZ w4 w3 hf hl) qa qc (g := mkF m pc Ls (argsL.reverse ++ .ref b :: rest)) rfl hsize (Steps.refl _) (argsL := argsL) (rest := rest) (lenOf hdesc hlen) rfl (by show 2 * 0 + _ ≤ W; rw [Nat.mul_zero, Nat.zero_add]; exact hW) hd (fun _ _ => ⟨rfl, eT, hc, hs⟩)
  dsimp only [Pt.U, Pt.locs, Pt.cells, Pt.slots] at X' l' y' z' st hQ
  subst l' y' z'
  exact own_go (fun t q => st.trans q) (k T' Lc v X' hQ)
def own_A {α : Type} (ty : FieldType) (f : α → Value) (Z : State) (h : Heap) (a : Addr) (L : List α) : Prop := ∃ cl : Cell, Arr Z h a cl ty ∧ cl.slots = (L.map f).toArray ∧ L.length < 2147483648
section OwnArr
variable {α : Type} {ty : FieldType} {f : α → Value} {h' : Heap} {a b : Addr} {L : List α}
theorem own_A.lt (F : own_A ty f Z h a L) : a < h.size := by obtain ⟨cl, A, -⟩ := F; exact A.lt
theorem own_A.ext (F : own_A ty f Z h a L) (E : Ext h h') : own_A ty f Z h' a L := by obtain ⟨cl, A, r⟩ := F; exact ⟨cl, A.ext E, r⟩
theorem own_A.other {sl : Nat} {v : Value} (F : own_A ty f Z h b L) (W : Wr h h' a sl v) (q : b ≠ a) : own_A ty f Z h' b L := by obtain ⟨cl, A, r⟩ := F; exact ⟨cl, A.other W q, r⟩
theorem own_A.keep {ws : List Addr} (F : own_A ty f Z h a L) (K : Keep h h' ws) (q : a ∉ ws) : own_A ty f Z h' a L := by obtain ⟨cl, A, r⟩ := F; exact ⟨cl, ⟨K.2.1 a cl A.1 q, A.2⟩, r⟩
theorem own_A.len (F : own_A ty f Z h a L) : L.length < 2147483648 := by obtain ⟨cl, A, -, r⟩ := F; exact r
theorem own_A.set {i : Nat} {x : α} (F : own_A ty f Z h a L) (W : Wr h h' a i (f x)) : own_A ty f Z h' a (L.set i x) := by
  obtain ⟨cl, A, r, r'⟩ := F
  refine ⟨_, A.same W, ?_, by simpa using r'⟩
  show cl.slots.setIfInBounds i (f x) = _
  rw [r, List.map_set]; simp
theorem own_idx {j : Int32} {i n : Nat} (hj : j = Int32.ofNat i) (hi : i < n) (hn : n < 2147483648) : ¬ (j < 0 ∨ n ≤ j.toNatClampNeg) ∧ j.toNatClampNeg = i := by
  subst hj
  have q : (Int32.ofNat i).toInt = i := Int32.toInt_ofNat_of_lt (by omega)
  have q2 : (Int32.ofNat i).toNatClampNeg = i := by rw [Int32.toNatClampNeg, q]; rfl
  refine ⟨fun z => z.elim (fun z => ?_) fun z => by omega, q2⟩
  rw [Int32.lt_iff_toInt_lt, q, show (0 : Int32).toInt = 0 from rfl] at z; omega
theorem own_A.new {k : ClassId} {n : Int32} {d : α} (hd : f d = defaultValue ty) (A : Arr Z h a (newA k ty n) ty) (i : Nat) (hn : n = Int32.ofNat i) (hi : i < 2147483648) : own_A ty f Z h a (List.replicate i d) := by
  refine ⟨_, A, ?_, by simpa using hi⟩
  have q := (own_idx hn (Nat.lt_succ_self i) (n := i + 1))
  have q2 : n.toNatClampNeg = i := by
    subst hn
    rw [Int32.toNatClampNeg, Int32.toInt_ofNat_of_lt (by omega)]; rfl
  simp [newA, q2, hd]
end OwnArr
theorem own_niI {C : String} {n : Nat} (hZ : Z.Warmed39 s.vm) (w : (Cond.instantiable C n).before a0 Z = true) : ∃ c k, s.vm.findClass C = some c ∧ s.vm.classes[c]? = some k ∧ k.isInterface = false := by
  obtain ⟨t, kt, g1, g2, g3, g4, -⟩ := Cond.instantiable_spec (mvT hZ w (args := a0))
  exact ⟨t, kt, g1, g2, by cases hi : kt.isInterface <;> simp_all⟩
theorem own_callP {bytes : ByteArray} {maxL : Nat} {ret : Option FieldType} {rm : Room} {y : MethodName} {argsL : List Value} {Q : Option Value → Heap → List Loc → Prop} (X : Stand p l e R s m args below meth c T locs cells slots) (hx : p.tables.exec = Jvm.exec) (hZ : Z.Warmed39 s.vm) {own C : String} {index : Nat} (hown : s.vm.findClass own = some m.cls) (w1 : (Cond.methodLink own index y).before a0 Z = true) (w2 : (Cond.instanceMethod y).before a0 Z = true) (w5 : (Cond.privateMethod y).before a0 Z = true) (hni : ∃ c k, s.vm.findClass y.cls = some c ∧ s.vm.classes[c]? = some k ∧ k.isInterface = false) (w3 : (Cond.initialized y.cls).before a0 Z = true) (w4 : (Cond.code y bytes maxL ret).before a0 Z = true) (hy : y.cls ≠ "java/lang/invoke/MethodHandle" ∧ y.cls ≠ "java/lang/invoke/VarHandle") (eT : T.heap = h) {b : Addr} (E : Exa Z h b C)
    (hM : MetFree l y (head1 [Cond.code y bytes maxL ret] rm) (fun a U => a = (.ref b :: argsL).toArray ∧ Z.Warmed39 U.vm ∧ U.heap = h) (fun _ _ _ _ _ => True) (fun _ U o U' => ∃ v L, o = .returned v ∧ Q v U'.heap L ∧ FrameEnd U o U' L rm.cells rm.slots))
    (hsize : Ls.size = c.maxLocals) {ps : List FieldType} {rt : Option FieldType} (hdesc : parseMethodDescriptor y.desc = some ⟨ps, rt⟩) (hlen : argsL.length = ps.length) {st : List Value} (hst : st = argsL.reverse ++ .ref b :: rest) (hd : decode c.code pc = .ok (.invokevirtual index, 3)) (W : Nat) (hW : (rest.map fun v => v.category).sum ≤ W) (hf : rm.frames + 1 ≤ R.frames) (hl : W + (maxL + 11) + rm.locals ≤ R.locals) (hc : cells + rm.cells ≤ R.cells) (hs : slots + rm.slots ≤ R.slots) (pc' : Nat) (hp : pc + 3 = pc')
    (k : ∀ (T' : State) (L : List Loc) (v : Option Value), Stand p l e R s m args below meth c T' (locs ++ L) (cells + rm.cells) (slots + rm.slots) → Q v T'.heap L → own_Go p e below G (T'.setTop (mkF m pc' Ls (v.toList ++ rest)))) : own_Go p e below G (T.setTop (mkF m pc Ls st)) := by
  subst hp hst
  obtain ⟨cell, hcell, hobj⟩ := E.cell
  obtain ⟨cq, kq, q1, q2, q3⟩ := hni
  have hpr := Cond.privateMethod_at (mvP hZ w5 (args := #[]))
  have hi := mvT hZ w2 (args := args)
  obtain ⟨v, _, ⟨T', L', k', n'⟩, -, X', ⟨Lc, hQ, l', y', z'⟩, st⟩ := X.privateBack hx (y := y) hown (mvT hZ w1) hi (selects_self_of_private q1 q2 q3 hpr hi hy) hpr (mvT hZ w4) hy (backOf (W := W) hM hZ w4 w3 hf hl) (g := mkF m pc Ls (argsL.reverse ++ .ref b :: rest)) rfl hsize (Steps.refl _) (a := b) (by rw [eT]; exact hcell) hobj (argsL := argsL) (rest := rest) (lenOf hdesc hlen) rfl (by show 2 * 0 + _ ≤ W; rw [Nat.mul_zero, Nat.zero_add]; exact hW) hd (fun _ _ => ⟨rfl, eT, hc, hs⟩)
  dsimp only [Pt.U, Pt.locs, Pt.cells, Pt.slots] at X' l' y' z' st hQ
  subst l' y' z'
  exact own_go (fun t q => st.trans q) (k T' Lc v X' hQ)
end OwnSteps
theorem own_w {Z : State} {a0 : Array Value} (hw : ∀ d ∈ tables_1, d.before a0 Z = true) (i : Nat) {d : Cond} (h : tables_1[i]? = some d) : d.before a0 Z = true := hw d (List.mem_of_getElem? h)
abbrev oc0 : String := "com/example/loon/loon/index/ByteSink"
section OwnSn
variable {Z : State} {a0 : Array Value}
theorem sn_0 (hw : ∀ d ∈ tables_1, d.before a0 Z = true) : Jvm.RoadKit.slotOf Z oc0 "size" "I" ≠ Jvm.RoadKit.slotOf Z oc0 "bytes" "[B" := slot_ne (C := oc0) (Or.inl (own_w hw 19 rfl)) (Or.inl (own_w hw 12 rfl)) (by decide) (t := .int) (t' := (.array .byte)) (by decide) (by decide)
theorem sn_1 (hw : ∀ d ∈ tables_1, d.before a0 Z = true) : Jvm.RoadKit.slotOf Z oc0 "bytes" "[B" ≠ Jvm.RoadKit.slotOf Z oc0 "size" "I" := slot_ne (C := oc0) (Or.inl (own_w hw 12 rfl)) (Or.inl (own_w hw 19 rfl)) (by decide) (t := (.array .byte)) (t' := .int) (by decide) (by decide)
end OwnSn
theorem own_isl {args : Array Value} {first s : State} {o : Option Outcome} {idx : List Nat} {t : Term} (h : (Cond.isLong t).value args first o s idx = some true) : ∃ x, t.eval args first o idx s = some (.long x) := isL_v h
theorem d1_0 : decode prog_13_method_1_code 0 = .ok (.aload_n 0, 1) := by decide +kernel
theorem d1_1 : decode prog_13_method_1_code 1 = .ok (.invokespecial 1, 3) := by decide +kernel
theorem d1_4 : decode prog_13_method_1_code 4 = .ok (.aload_n 0, 1) := by decide +kernel
theorem d1_5 : decode prog_13_method_1_code 5 = .ok (.bipush 8, 2) := by decide +kernel
theorem d1_7 : decode prog_13_method_1_code 7 = .ok (.newarray .byte, 2) := by decide +kernel
theorem d1_9 : decode prog_13_method_1_code 9 = .ok (.putfield 9, 3) := by decide +kernel
theorem d1_12 : decode prog_13_method_1_code 12 = .ok (.return_, 1) := by decide +kernel
theorem d3_0 : decode prog_13_method_4_code 0 = .ok (.aload_n 0, 1) := by decide +kernel
theorem d3_1 : decode prog_13_method_4_code 1 = .ok (.getfield 30, 3) := by decide +kernel
theorem d3_4 : decode prog_13_method_4_code 4 = .ok (.ireturn, 1) := by decide +kernel
theorem d4_0 : decode prog_13_method_2_code 0 = .ok (.lload_n 1, 1) := by decide +kernel
theorem d4_1 : decode prog_13_method_2_code 1 = .ok (.lconst 0, 1) := by decide +kernel
theorem d4_2 : decode prog_13_method_2_code 2 = .ok (.lcmp, 1) := by decide +kernel
theorem d4_3 : decode prog_13_method_2_code 3 = .ok (.ifCond .ge 17, 3) := by decide +kernel
theorem d4_20 : decode prog_13_method_2_code 20 = .ok (.aload_n 0, 1) := by decide +kernel
theorem d4_21 : decode prog_13_method_2_code 21 = .ok (.bipush 10, 2) := by decide +kernel
theorem d4_23 : decode prog_13_method_2_code 23 = .ok (.invokevirtual 24, 3) := by decide +kernel
theorem d4_26 : decode prog_13_method_2_code 26 = .ok (.lload_n 1, 1) := by decide +kernel
theorem d4_27 : decode prog_13_method_2_code 27 = .ok (.lstore_n 3, 1) := by decide +kernel
theorem d4_28 : decode prog_13_method_2_code 28 = .ok (.lload_n 3, 1) := by decide +kernel
theorem d4_29 : decode prog_13_method_2_code 29 = .ok (.ldc2_w 28, 3) := by decide +kernel
theorem d4_32 : decode prog_13_method_2_code 32 = .ok (.lcmp, 1) := by decide +kernel
theorem d4_33 : decode prog_13_method_2_code 33 = .ok (.ifCond .lt 34, 3) := by decide +kernel
theorem d4_36 : decode prog_13_method_2_code 36 = .ok (.aload_n 0, 1) := by decide +kernel
theorem d4_37 : decode prog_13_method_2_code 37 = .ok (.getfield 9, 3) := by decide +kernel
theorem d4_40 : decode prog_13_method_2_code 40 = .ok (.aload_n 0, 1) := by decide +kernel
theorem d4_41 : decode prog_13_method_2_code 41 = .ok (.dup, 1) := by decide +kernel
theorem d4_42 : decode prog_13_method_2_code 42 = .ok (.getfield 30, 3) := by decide +kernel
theorem d4_45 : decode prog_13_method_2_code 45 = .ok (.dup_x1, 1) := by decide +kernel
theorem d4_46 : decode prog_13_method_2_code 46 = .ok (.iconst 1, 1) := by decide +kernel
theorem d4_47 : decode prog_13_method_2_code 47 = .ok (.iadd, 1) := by decide +kernel
theorem d4_48 : decode prog_13_method_2_code 48 = .ok (.putfield 30, 3) := by decide +kernel
theorem d4_51 : decode prog_13_method_2_code 51 = .ok (.lload_n 3, 1) := by decide +kernel
theorem d4_52 : decode prog_13_method_2_code 52 = .ok (.ldc2_w 28, 3) := by decide +kernel
theorem d4_55 : decode prog_13_method_2_code 55 = .ok (.lor, 1) := by decide +kernel
theorem d4_56 : decode prog_13_method_2_code 56 = .ok (.l2i, 1) := by decide +kernel
theorem d4_57 : decode prog_13_method_2_code 57 = .ok (.i2b, 1) := by decide +kernel
theorem d4_58 : decode prog_13_method_2_code 58 = .ok (.bastore, 1) := by decide +kernel
theorem d4_59 : decode prog_13_method_2_code 59 = .ok (.lload_n 3, 1) := by decide +kernel
theorem d4_60 : decode prog_13_method_2_code 60 = .ok (.bipush 7, 2) := by decide +kernel
theorem d4_62 : decode prog_13_method_2_code 62 = .ok (.lushr, 1) := by decide +kernel
theorem d4_63 : decode prog_13_method_2_code 63 = .ok (.lstore_n 3, 1) := by decide +kernel
theorem d4_64 : decode prog_13_method_2_code 64 = .ok (.goto (-36), 3) := by decide +kernel
theorem d4_67 : decode prog_13_method_2_code 67 = .ok (.aload_n 0, 1) := by decide +kernel
theorem d4_68 : decode prog_13_method_2_code 68 = .ok (.getfield 9, 3) := by decide +kernel
theorem d4_71 : decode prog_13_method_2_code 71 = .ok (.aload_n 0, 1) := by decide +kernel
theorem d4_72 : decode prog_13_method_2_code 72 = .ok (.dup, 1) := by decide +kernel
theorem d4_73 : decode prog_13_method_2_code 73 = .ok (.getfield 30, 3) := by decide +kernel
theorem d4_76 : decode prog_13_method_2_code 76 = .ok (.dup_x1, 1) := by decide +kernel
theorem d4_77 : decode prog_13_method_2_code 77 = .ok (.iconst 1, 1) := by decide +kernel
theorem d4_78 : decode prog_13_method_2_code 78 = .ok (.iadd, 1) := by decide +kernel
theorem d4_79 : decode prog_13_method_2_code 79 = .ok (.putfield 30, 3) := by decide +kernel
theorem d4_82 : decode prog_13_method_2_code 82 = .ok (.lload_n 3, 1) := by decide +kernel
theorem d4_83 : decode prog_13_method_2_code 83 = .ok (.l2i, 1) := by decide +kernel
theorem d4_84 : decode prog_13_method_2_code 84 = .ok (.i2b, 1) := by decide +kernel
theorem d4_85 : decode prog_13_method_2_code 85 = .ok (.bastore, 1) := by decide +kernel
theorem d4_86 : decode prog_13_method_2_code 86 = .ok (.return_, 1) := by decide +kernel
theorem d5_0 : decode prog_13_method_7_code 0 = .ok (.aload_n 0, 1) := by decide +kernel
theorem d5_1 : decode prog_13_method_7_code 1 = .ok (.getfield 9, 3) := by decide +kernel
theorem d5_4 : decode prog_13_method_7_code 4 = .ok (.arraylength, 1) := by decide +kernel
theorem d5_5 : decode prog_13_method_7_code 5 = .ok (.aload_n 0, 1) := by decide +kernel
theorem d5_6 : decode prog_13_method_7_code 6 = .ok (.getfield 30, 3) := by decide +kernel
theorem d5_9 : decode prog_13_method_7_code 9 = .ok (.isub, 1) := by decide +kernel
theorem d5_10 : decode prog_13_method_7_code 10 = .ok (.iload_n 1, 1) := by decide +kernel
theorem d5_11 : decode prog_13_method_7_code 11 = .ok (.if_icmp .ge 30, 3) := by decide +kernel
theorem d5_14 : decode prog_13_method_7_code 14 = .ok (.aload_n 0, 1) := by decide +kernel
theorem d5_15 : decode prog_13_method_7_code 15 = .ok (.aload_n 0, 1) := by decide +kernel
theorem d5_16 : decode prog_13_method_7_code 16 = .ok (.getfield 9, 3) := by decide +kernel
theorem d5_19 : decode prog_13_method_7_code 19 = .ok (.aload_n 0, 1) := by decide +kernel
theorem d5_20 : decode prog_13_method_7_code 20 = .ok (.getfield 9, 3) := by decide +kernel
theorem d5_23 : decode prog_13_method_7_code 23 = .ok (.arraylength, 1) := by decide +kernel
theorem d5_24 : decode prog_13_method_7_code 24 = .ok (.iconst 2, 1) := by decide +kernel
theorem d5_25 : decode prog_13_method_7_code 25 = .ok (.imul, 1) := by decide +kernel
theorem d5_26 : decode prog_13_method_7_code 26 = .ok (.aload_n 0, 1) := by decide +kernel
theorem d5_27 : decode prog_13_method_7_code 27 = .ok (.getfield 30, 3) := by decide +kernel
theorem d5_30 : decode prog_13_method_7_code 30 = .ok (.iload_n 1, 1) := by decide +kernel
theorem d5_31 : decode prog_13_method_7_code 31 = .ok (.iadd, 1) := by decide +kernel
theorem d5_32 : decode prog_13_method_7_code 32 = .ok (.invokestatic 67, 3) := by decide +kernel
theorem d5_35 : decode prog_13_method_7_code 35 = .ok (.invokestatic 73, 3) := by decide +kernel
theorem d5_38 : decode prog_13_method_7_code 38 = .ok (.putfield 9, 3) := by decide +kernel
theorem d5_41 : decode prog_13_method_7_code 41 = .ok (.return_, 1) := by decide +kernel
theorem d6_0 : decode jdk_29_method_65_code 0 = .ok (.iload_n 0, 1) := by decide +kernel
theorem d6_1 : decode jdk_29_method_65_code 1 = .ok (.iload_n 1, 1) := by decide +kernel
theorem d6_2 : decode jdk_29_method_65_code 2 = .ok (.if_icmp .lt 7, 3) := by decide +kernel
theorem d6_5 : decode jdk_29_method_65_code 5 = .ok (.iload_n 0, 1) := by decide +kernel
theorem d6_6 : decode jdk_29_method_65_code 6 = .ok (.goto 4, 3) := by decide +kernel
theorem d6_9 : decode jdk_29_method_65_code 9 = .ok (.iload_n 1, 1) := by decide +kernel
theorem d6_10 : decode jdk_29_method_65_code 10 = .ok (.ireturn, 1) := by decide +kernel
theorem d7_0 : decode jdk_65_method_121_code 0 = .ok (.iload_n 1, 1) := by decide +kernel
theorem d7_1 : decode jdk_65_method_121_code 1 = .ok (.aload_n 0, 1) := by decide +kernel
theorem d7_2 : decode jdk_65_method_121_code 2 = .ok (.arraylength, 1) := by decide +kernel
theorem d7_3 : decode jdk_65_method_121_code 3 = .ok (.if_icmp .ne 11, 3) := by decide +kernel
theorem d7_14 : decode jdk_65_method_121_code 14 = .ok (.iload_n 1, 1) := by decide +kernel
theorem d7_15 : decode jdk_65_method_121_code 15 = .ok (.newarray .byte, 2) := by decide +kernel
theorem d7_17 : decode jdk_65_method_121_code 17 = .ok (.astore_n 2, 1) := by decide +kernel
theorem d7_18 : decode jdk_65_method_121_code 18 = .ok (.aload_n 0, 1) := by decide +kernel
theorem d7_19 : decode jdk_65_method_121_code 19 = .ok (.iconst 0, 1) := by decide +kernel
theorem d7_20 : decode jdk_65_method_121_code 20 = .ok (.aload_n 2, 1) := by decide +kernel
theorem d7_21 : decode jdk_65_method_121_code 21 = .ok (.iconst 0, 1) := by decide +kernel
theorem d7_22 : decode jdk_65_method_121_code 22 = .ok (.aload_n 0, 1) := by decide +kernel
theorem d7_23 : decode jdk_65_method_121_code 23 = .ok (.arraylength, 1) := by decide +kernel
theorem d7_24 : decode jdk_65_method_121_code 24 = .ok (.iload_n 1, 1) := by decide +kernel
theorem d7_25 : decode jdk_65_method_121_code 25 = .ok (.invokestatic 304, 3) := by decide +kernel
theorem d7_28 : decode jdk_65_method_121_code 28 = .ok (.invokestatic 150, 3) := by decide +kernel
theorem d7_31 : decode jdk_65_method_121_code 31 = .ok (.aload_n 2, 1) := by decide +kernel
theorem d7_32 : decode jdk_65_method_121_code 32 = .ok (.areturn, 1) := by decide +kernel
theorem d8_0 : decode jdk_29_method_69_code 0 = .ok (.iload_n 0, 1) := by decide +kernel
theorem d8_1 : decode jdk_29_method_69_code 1 = .ok (.iload_n 1, 1) := by decide +kernel
theorem d8_2 : decode jdk_29_method_69_code 2 = .ok (.if_icmp .gt 7, 3) := by decide +kernel
theorem d8_5 : decode jdk_29_method_69_code 5 = .ok (.iload_n 0, 1) := by decide +kernel
theorem d8_6 : decode jdk_29_method_69_code 6 = .ok (.goto 4, 3) := by decide +kernel
theorem d8_9 : decode jdk_29_method_69_code 9 = .ok (.iload_n 1, 1) := by decide +kernel
theorem d8_10 : decode jdk_29_method_69_code 10 = .ok (.ireturn, 1) := by decide +kernel
theorem d9_0 : decode method_2_code 0 = .ok (.lload_n 0, 1) := by decide +kernel
theorem d9_1 : decode method_2_code 1 = .ok (.ldc2_w 7, 3) := by decide +kernel
theorem d9_4 : decode method_2_code 4 = .ok (.lcmp, 1) := by decide +kernel
theorem d9_5 : decode method_2_code 5 = .ok (.ifCond .ge 5, 3) := by decide +kernel
theorem d9_8 : decode method_2_code 8 = .ok (.iconst 1, 1) := by decide +kernel
theorem d9_9 : decode method_2_code 9 = .ok (.ireturn, 1) := by decide +kernel
theorem d9_10 : decode method_2_code 10 = .ok (.lload_n 0, 1) := by decide +kernel
theorem d9_11 : decode method_2_code 11 = .ok (.ldc2_w 9, 3) := by decide +kernel
theorem d9_14 : decode method_2_code 14 = .ok (.lcmp, 1) := by decide +kernel
theorem d9_15 : decode method_2_code 15 = .ok (.ifCond .ge 5, 3) := by decide +kernel
theorem d9_18 : decode method_2_code 18 = .ok (.iconst 2, 1) := by decide +kernel
theorem d9_19 : decode method_2_code 19 = .ok (.ireturn, 1) := by decide +kernel
theorem d9_20 : decode method_2_code 20 = .ok (.lload_n 0, 1) := by decide +kernel
theorem d9_21 : decode method_2_code 21 = .ok (.ldc2_w 11, 3) := by decide +kernel
theorem d9_24 : decode method_2_code 24 = .ok (.lcmp, 1) := by decide +kernel
theorem d9_25 : decode method_2_code 25 = .ok (.ifCond .ge 5, 3) := by decide +kernel
theorem d9_28 : decode method_2_code 28 = .ok (.iconst 3, 1) := by decide +kernel
theorem d9_29 : decode method_2_code 29 = .ok (.ireturn, 1) := by decide +kernel
theorem d9_30 : decode method_2_code 30 = .ok (.lload_n 0, 1) := by decide +kernel
theorem d9_31 : decode method_2_code 31 = .ok (.ldc2_w 13, 3) := by decide +kernel
theorem d9_34 : decode method_2_code 34 = .ok (.lcmp, 1) := by decide +kernel
theorem d9_35 : decode method_2_code 35 = .ok (.ifCond .ge 5, 3) := by decide +kernel
theorem d9_38 : decode method_2_code 38 = .ok (.iconst 4, 1) := by decide +kernel
theorem d9_39 : decode method_2_code 39 = .ok (.ireturn, 1) := by decide +kernel
theorem d9_40 : decode method_2_code 40 = .ok (.lload_n 0, 1) := by decide +kernel
theorem d9_41 : decode method_2_code 41 = .ok (.ldc2_w 15, 3) := by decide +kernel
theorem d9_44 : decode method_2_code 44 = .ok (.lcmp, 1) := by decide +kernel
theorem d9_45 : decode method_2_code 45 = .ok (.ifCond .ge 5, 3) := by decide +kernel
theorem d9_48 : decode method_2_code 48 = .ok (.iconst 5, 1) := by decide +kernel
theorem d9_49 : decode method_2_code 49 = .ok (.ireturn, 1) := by decide +kernel
theorem d9_50 : decode method_2_code 50 = .ok (.lload_n 0, 1) := by decide +kernel
theorem d9_51 : decode method_2_code 51 = .ok (.ldc2_w 17, 3) := by decide +kernel
theorem d9_54 : decode method_2_code 54 = .ok (.lcmp, 1) := by decide +kernel
theorem d9_55 : decode method_2_code 55 = .ok (.ifCond .ge 6, 3) := by decide +kernel
theorem d9_58 : decode method_2_code 58 = .ok (.bipush 6, 2) := by decide +kernel
theorem d9_60 : decode method_2_code 60 = .ok (.ireturn, 1) := by decide +kernel
theorem d9_61 : decode method_2_code 61 = .ok (.lload_n 0, 1) := by decide +kernel
theorem d9_62 : decode method_2_code 62 = .ok (.ldc2_w 19, 3) := by decide +kernel
theorem d9_65 : decode method_2_code 65 = .ok (.lcmp, 1) := by decide +kernel
theorem d9_66 : decode method_2_code 66 = .ok (.ifCond .ge 6, 3) := by decide +kernel
theorem d9_69 : decode method_2_code 69 = .ok (.bipush 7, 2) := by decide +kernel
theorem d9_71 : decode method_2_code 71 = .ok (.ireturn, 1) := by decide +kernel
theorem d9_72 : decode method_2_code 72 = .ok (.lload_n 0, 1) := by decide +kernel
theorem d9_73 : decode method_2_code 73 = .ok (.ldc2_w 21, 3) := by decide +kernel
theorem d9_76 : decode method_2_code 76 = .ok (.lcmp, 1) := by decide +kernel
theorem d9_77 : decode method_2_code 77 = .ok (.ifCond .ge 6, 3) := by decide +kernel
theorem d9_80 : decode method_2_code 80 = .ok (.bipush 8, 2) := by decide +kernel
theorem d9_82 : decode method_2_code 82 = .ok (.ireturn, 1) := by decide +kernel
theorem d9_83 : decode method_2_code 83 = .ok (.bipush 9, 2) := by decide +kernel
theorem d9_85 : decode method_2_code 85 = .ok (.ireturn, 1) := by decide +kernel
abbrev own_y1 : MethodName := ⟨"com/example/loon/loon/index/ByteSink", "<init>", "()V"⟩
abbrev own_y3 : MethodName := ⟨"com/example/loon/loon/index/ByteSink", "size", "()I"⟩
abbrev own_y6 : MethodName := ⟨"java/lang/Math", "max", "(II)I"⟩
abbrev own_y8 : MethodName := ⟨"java/lang/Math", "min", "(II)I"⟩
abbrev own_y7 : MethodName := ⟨"java/util/Arrays", "copyOf", "([BI)[B"⟩
abbrev own_y5 : MethodName := ⟨"com/example/loon/loon/index/ByteSink", "ensureRoom", "(I)V"⟩
abbrev own_y4 : MethodName := ⟨"com/example/loon/loon/index/ByteSink", "putVarLong", "(J)V"⟩
abbrev own_y9 : MethodName := ⟨"com/example/loon/loon/index/ByteSinkPutVarLongPinLaw", "len", "(J)I"⟩
theorem pf_1 : plainFor own_y1 = true := by decide +kernel
theorem pf_3 : plainFor own_y3 = true := by decide +kernel
theorem pf_6 : plainFor own_y6 = true := by decide +kernel
theorem pf_8 : plainFor own_y8 = true := by decide +kernel
theorem pf_7 : plainFor own_y7 = true := by decide +kernel
theorem pf_5 : plainFor own_y5 = true := by decide +kernel
theorem pf_4 : plainFor own_y4 = true := by decide +kernel
theorem pf_9 : plainFor own_y9 = true := by decide +kernel
theorem pn_0 : plainName "com/example/loon/loon/index/ByteSinkPutVarLongPinLaw" = true := by first | (simp [plainName, overriddenIn]; done) | decide +kernel
theorem pd_0 : parseMethodDescriptor "(II)I" = some ⟨[.int, .int], some .int⟩ := by decide +kernel
theorem pd_1 : parseMethodDescriptor "([BI)[B" = some ⟨[(.array .byte), .int], some (.array .byte)⟩ := by decide +kernel
theorem pd_2 : parseMethodDescriptor "(I)V" = some ⟨[.int], none⟩ := by decide +kernel
theorem pd_3 : parseMethodDescriptor "()V" = some ⟨[], none⟩ := by decide +kernel
theorem pd_4 : parseMethodDescriptor "()I" = some ⟨[], some .int⟩ := by decide +kernel
theorem pd_5 : parseMethodDescriptor "(J)V" = some ⟨[.long], none⟩ := by decide +kernel
theorem pd_6 : parseMethodDescriptor "(J)I" = some ⟨[.long], some .int⟩ := by decide +kernel
theorem own_and64 (x m : Int64) (k : Nat) (hm : m.toBitVec.toNat = 2 ^ k - 1) (hk : k < 64) : (x &&& m).toBitVec.toNat = x.toBitVec.toNat % 2 ^ k := by
  rw [Int64.toBitVec_and, BitVec.toNat_and, hm, Nat.and_two_pow_sub_one_eq_mod]
theorem own_ofNat {x : Int64} {n : Nat} (h : x.toBitVec.toNat = n) (hn : n < 9223372036854775808) : x = Int64.ofNat n := by
  apply Int64.toInt_inj.mp
  rw [Int64.toInt_ofNat_of_lt (by omega), ← Int64.toInt_toBitVec, BitVec.toInt_eq_toNat_of_lt (by omega), h]
theorem own_va (x : Int64) (z : Int32) : ∃ n : Nat, n < 9223372036854775808 ∧ ((x &&& (9223372036854775807 : Int64)).toUInt64 >>> (z &&& 0x3f).toInt64.toUInt64).toInt64 = Int64.ofNat n := by
  have h := own_and64 x 9223372036854775807 63 (by decide) (by decide)
  have hb : (x &&& (9223372036854775807 : Int64)).toUInt64.toNat < 9223372036854775808 := by
    show (x &&& (9223372036854775807 : Int64)).toBitVec.toNat < _
    rw [h]; omega
  have hs : ((x &&& (9223372036854775807 : Int64)).toUInt64 >>> (z &&& 0x3f).toInt64.toUInt64).toNat ≤ (x &&& (9223372036854775807 : Int64)).toUInt64.toNat := by
    rw [UInt64.toNat_shiftRight, Nat.shiftRight_eq_div_pow]; exact Nat.div_le_self _ _
  exact ⟨_, Nat.lt_of_le_of_lt hs hb, own_ofNat rfl (Nat.lt_of_le_of_lt hs hb)⟩
theorem own_sh7 {n : Nat} (hn : n < 9223372036854775808) : ((Int64.ofNat n).toUInt64 >>> ((7 : Int32) &&& 0x3f).toInt64.toUInt64).toInt64 = Int64.ofNat (n / 128) := by
  have hz : (Int64.ofNat n).toUInt64.toNat = n := by
    show (BitVec.ofNat 64 n).toNat = n
    rw [BitVec.toNat_ofNat]; omega
  have hs : ((Int64.ofNat n).toUInt64 >>> ((7 : Int32) &&& 0x3f).toInt64.toUInt64).toNat = n / 128 := by
    rw [UInt64.toNat_shiftRight, hz]
    show n >>> 7 = _
    rw [Nat.shiftRight_eq_div_pow]
  exact own_ofNat hs (by omega)
theorem own_n64 {i : Nat} (h : i < 9223372036854775808) : (Int64.ofNat i).toInt = i := Int64.toInt_ofNat_of_lt h
theorem own_lt64 {i : Nat} (hi : i < 9223372036854775808) {z : Int64} {j : Nat} (hj : z.toInt = j) : Int64.ofNat i < z ↔ i < j := by
  rw [Int64.lt_iff_toInt_lt, own_n64 hi, hj]; omega
theorem own_n32 {i : Nat} (h : i < 2147483648) : (Int32.ofNat i).toInt = i := Int32.toInt_ofNat_of_lt h
theorem own_lt32 {i j : Nat} (hi : i < 2147483648) (hj : j < 2147483648) : Int32.ofNat i < Int32.ofNat j ↔ i < j := by
  rw [Int32.lt_iff_toInt_lt, own_n32 hi, own_n32 hj]; omega
theorem own_eq32 {i j : Nat} (hi : i < 2147483648) (hj : j < 2147483648) : Int32.ofNat i = Int32.ofNat j ↔ i = j := by
  refine ⟨fun q => ?_, fun q => q ▸ rfl⟩
  have := congrArg Int32.toInt q
  rw [own_n32 hi, own_n32 hj] at this; omega
theorem own_sub32 {i j : Nat} (hij : i ≤ j) : Int32.ofNat j - Int32.ofNat i = Int32.ofNat (j - i) := by
  rw [← Int32.ofNat_sub _ _ hij]
def own_vl : Nat → Nat → Nat
  | 0, _ => 1
  | f + 1, x => if x < 128 then 1 else 1 + own_vl f (x / 128)
theorem own_vl_le : ∀ f x, 1 ≤ own_vl f x ∧ own_vl f x ≤ f + 1
  | 0, _ => ⟨Nat.le_refl _, Nat.le_refl _⟩
  | f + 1, x => by
    have := own_vl_le f (x / 128)
    unfold own_vl; split <;> omega
def own_gr (ln sz : Nat) : Nat := if ln < sz + 10 then max (ln * 2) (sz + 10) else ln
theorem own_gr_ge (ln sz : Nat) : sz + 10 ≤ own_gr ln sz := by unfold own_gr; split <;> omega
theorem own_gr_le {ln sz : Nat} (h : ln < sz + 10 → ln ≤ 16 ∧ sz ≤ 22) (h2 : ln ≤ 32) : own_gr ln sz ≤ 32 := by unfold own_gr; split <;> omega
theorem own_gr_gt {ln sz : Nat} (h : ln < sz + 10) : ln ≤ own_gr ln sz ∧ (0 < ln → ln < own_gr ln sz) := by unfold own_gr; rw [if_pos h]; omega
theorem own_len (x : Nat) (hx : x < 9223372036854775808) : own_vl 8 x = if x < 128 then 1 else if x < 16384 then 2 else if x < 2097152 then 3 else if x < 268435456 then 4 else if x < 34359738368 then 5 else if x < 4398046511104 then 6 else if x < 562949953421312 then 7 else if x < 72057594037927936 then 8 else 9 := by
  simp only [own_vl, Nat.div_div_eq_div_mul]
  repeat' split
  all_goals omega
def own_max (a b : Int32) : Int32 := if a < b then b else a
def own_min (a b : Int32) : Int32 := if b < a then b else a
theorem own_maxN {i j : Nat} (hi : i < 2147483648) (hj : j < 2147483648) : own_max (Int32.ofNat i) (Int32.ofNat j) = Int32.ofNat (max i j) := by
  unfold own_max
  by_cases h : i < j
  · rw [if_pos ((own_lt32 hi hj).mpr h), Nat.max_eq_right (Nat.le_of_lt h)]
  · rw [if_neg (fun q => h ((own_lt32 hi hj).mp q)), Nat.max_eq_left (by omega)]
theorem own_minN {i j : Nat} (hi : i < 2147483648) (hj : j < 2147483648) (h : i ≤ j) : own_min (Int32.ofNat i) (Int32.ofNat j) = Int32.ofNat i := by
  unfold own_min
  rw [if_neg (fun q => by have := (own_lt32 hj hi).mp q; omega)]

def own_BA (Z : State) (h : Heap) (a : Addr) (n : Nat) : Prop := ∃ (k : ClassId) (vs : List Value), Arv Z h a k .byte (Int32.ofNat n) vs (.int 0) ∧ vs.length = n ∧ n < 2147483648
section OwnBytes
variable {Z : State} {h h' : Heap} {a b : Addr} {n : Nat}
theorem own_BA.lt (F : own_BA Z h a n) : a < h.size := by obtain ⟨k, vs, A, -⟩ := F; exact A.lt
theorem own_BA.ext (F : own_BA Z h a n) (E : Ext h h') : own_BA Z h' a n := by obtain ⟨k, vs, A, r⟩ := F; exact ⟨k, vs, A.ext E, r⟩
theorem own_BA.other {sl : Nat} {v : Value} (F : own_BA Z h b n) (W : Wr h h' a sl v) (q : b ≠ a) : own_BA Z h' b n := by obtain ⟨k, vs, A, r⟩ := F; exact ⟨k, vs, A.other W q, r⟩
theorem own_BA.keep {ws : List Addr} (F : own_BA Z h a n) (K : Keep h h' ws) (q : a ∉ ws) : own_BA Z h' a n := by obtain ⟨k, vs, A, r⟩ := F; exact ⟨k, vs, A.keep K q, r⟩
theorem own_BA.len (F : own_BA Z h a n) : n < 2147483648 := by obtain ⟨k, vs, A, -, r⟩ := F; exact r
theorem own_clamp {n : Nat} (h : n < 2147483648) : (Int32.ofNat n).toNatClampNeg = n := by rw [Int32.toNatClampNeg, Int32.toInt_ofNat_of_lt (by omega)]; rfl
variable {p : Program} {l : Launch} {e : Env} {R : Room} {s : State} {m : MethodId} {args : Array Value} {below : List Frame} {meth : Method} {c : Code} {T : State} {locs : List Loc} {cells slots : Nat} {G : State → Outcome → Prop} {Ls : Array Slot} {rest : List Value} {pc : Nat} {a0 : Array Value}
theorem own_lenB (X : Stand p l e R s m args below meth c T locs cells slots) (hx : p.tables.exec = Jvm.exec) (hZ : Z.Warmed39 s.vm) (eT : T.heap = h) (V : own_BA Z h a n) (hd : decode c.code pc = .ok (.arraylength, 1)) (pc' : Nat) (hp : pc + 1 = pc') (k : own_Go p e below G (T.setTop (mkF m pc' Ls (.int (Int32.ofNat n) :: rest)))) : own_Go p e below G (T.setTop (mkF m pc Ls (.ref a :: rest))) := by
  subst hp
  obtain ⟨kk, vs, ⟨cl, A, q1, S, q3, -⟩, -, hn⟩ := V
  refine own_go (X.arraylength hx (cell := cl) (by rw [eT]; exact A.1) (State.isArrayOf_alike hZ.alike A.2.1) (g := mkF m pc Ls (.ref a :: rest)) rfl (rest := rest) rfl hd) ?_
  rw [len_of S q3]
  exact k
theorem own_stB (X : Stand p l e R s m args below meth c T locs cells slots) (hx : p.tables.exec = Jvm.exec) (hZ : Z.Warmed39 s.vm) (eT : T.heap = h) (V : own_BA Z h a n) {j x : Int32} (i : Nat) (hj : j = Int32.ofNat i) (hi : i < n) (hd : decode c.code pc = .ok (.bastore, 1)) (pc' : Nat) (hp : pc + 1 = pc')
    (k : ∀ (T' : State) (h' : Heap), Stand p l e R s m args below meth c T' (locs ++ [⟨a, j.toNatClampNeg⟩]) cells slots → T'.heap = h' → Wr h h' a i (.int (nar .byte x)) → own_BA Z h' a n → own_Go p e below G (T'.setTop (mkF m pc' Ls rest))) : own_Go p e below G (T.setTop (mkF m pc Ls (.int x :: .int j :: .ref a :: rest))) := by
  subst hp
  obtain ⟨kk, vs, ⟨cl, A, q1, S, q3, H, G'⟩, hl, hn⟩ := V
  have S' : cl.slots.size = n := S.trans (own_clamp hn)
  obtain ⟨r1, r2⟩ := own_idx hj hi hn
  obtain ⟨T', h', X', e', W, st⟩ := stB X hx hZ eT A (j := j) (x := x) (by rw [S']; exact r1) (g := mkF m pc Ls (.int x :: .int j :: .ref a :: rest)) rfl rfl hd
  have V' := Arv.set A q1 S q3 H G' (fits_nar_byte x) W i r2 (by omega)
  rw [r2] at W
  exact own_go st (k T' h' X' e' W ⟨kk, _, V', by simpa using hl, hn⟩)
theorem own_newBB (X : Stand p l e R s m args below meth c T locs cells slots) (hx : p.tables.exec = Jvm.exec) (hZ : Z.Warmed39 s.vm) (w : (Cond.arrayClass .byte).before a0 Z = true) (eT : T.heap = h) {n : Int32} (hd : decode c.code pc = .ok (.newarray .byte, 2)) (i : Nat) (hn : n = Int32.ofNat i) (cap : Nat) (hcap : i ≤ cap) (hb : cap * 8 ≤ 536870912) (hc : cells + 1 ≤ R.cells) (hl : slots + cap ≤ R.slots) (pc' : Nat) (hp : pc + 2 = pc')
    (k : ∀ (T' : State) (h' : Heap) (a' : Addr), a' = h.size → Stand p l e R s m args below meth c T' locs (cells + 1) (slots + cap) → T'.heap = h' → Ext h h' → own_BA Z h' a' i → own_Go p e below G (T'.setTop (mkF m pc' Ls (.ref a' :: rest)))) : own_Go p e below G (T.setTop (mkF m pc Ls (.int n :: rest))) := by
  subst hp
  have hi : i < 2147483648 := by omega
  obtain ⟨q1, q2⟩ := own_idx hn (Nat.lt_succ_self i) (n := i + 1) (by omega)
  obtain ⟨T', h', cA, X', e', E', A', st⟩ := newP X hx hZ (aty := .byte) w eT (g := mkF m pc Ls (.int n :: rest)) rfl hd (n := n) (rest := rest) rfl (fun z => q1 (Or.inl z)) (cap := cap) (by rw [q2]; exact hcap) hb hc hl
  have V := (Arv.new A' (fun z => q1 (Or.inl z))).pad (vs' := [] ++ List.replicate i (Value.int 0)) (pad_rep [] (Value.int 0) i)
  rw [hn] at V
  exact own_go st (k T' h' _ rfl X' e' E' ⟨cA, _, V, by simp, hi⟩)
theorem own_cpB (X : Stand p l e R s m args below meth c T locs cells slots) (hx : p.tables.exec = Jvm.exec) (hZ : Z.Warmed39 s.vm) {own : String} {index : Nat} (hown : s.vm.findClass own = some m.cls)
    (w1 : (Cond.methodLink own index Jvm.Stand.acN).before a0 Z = true) (w2 : (Cond.native Jvm.Stand.acN).before a0 Z = true) (w3 : (Cond.static Jvm.Stand.acN).before a0 Z = true) (w4 : (Cond.initialized "java/lang/System").before a0 Z = true) (eT : T.heap = h)
    {n1 n2 : Nat} (A : own_BA Z h a n1) (B : own_BA Z h b n2) (hle : n1 ≤ n2) {n0 : Nat} (N : Fr n0 locs) (ge : n0 ≤ b) (hsize : Ls.size = c.maxLocals) (hd : decode c.code pc = .ok (.invokestatic index, 3)) (hf : 1 ≤ R.frames) (W : Nat) (hW : (rest.map fun v => v.category).sum ≤ W) (hlo : W + (nativeFrameWords "java/lang/System" "arraycopy" 5 + 11) ≤ R.locals) (pc' : Nat) (hp : pc + 3 = pc')
    (k : ∀ (T' : State) (h' : Heap) (L : List Loc), Stand p l e R s m args below meth c T' L cells slots → T'.heap = h' → Fr n0 L → Keep h h' [b] → own_BA Z h' b n2 → own_Go p e below G (T'.setTop (mkF m pc' Ls rest))) : own_Go p e below G (T.setTop (mkF m pc Ls (.int (Int32.ofNat n1) :: .int (0 : Int32) :: .ref b :: .int (0 : Int32) :: .ref a :: rest))) := by
  subst hp
  obtain ⟨ka, va, VA, la, ha⟩ := A
  obtain ⟨kb, vb, VB, lb, hb⟩ := B
  have c1 := own_clamp ha
  have c2 := own_clamp hb
  have c0 : (0 : Int32).toNatClampNeg = 0 := rfl
  have hneg : ¬ Int32.ofNat n1 < 0 := by
    rw [Int32.lt_iff_toInt_lt, Int32.toInt_ofNat_of_lt (by omega), show (0 : Int32).toInt = 0 from rfl]; omega
  obtain ⟨T', h', L, X', e', N', K', V', st⟩ := cpA X hx hZ hown w1 w2 w3 w4 eT VA VB (Or.inl ⟨rfl, rfl⟩) (sp := 0) (dp := 0) (nn := Int32.ofNat n1) (by decide) (by decide) hneg (by rw [c0, c1]; omega) (by rw [c0, c1, c2]; omega) rfl (by rw [c0, c1]; omega) N ge (g := mkF m pc Ls (.int (Int32.ofNat n1) :: .int (0 : Int32) :: .ref b :: .int (0 : Int32) :: .ref a :: rest)) rfl hsize rfl hd hf (W := W) (by show 2 * 0 + _ ≤ W; rw [Nat.mul_zero, Nat.zero_add]; exact hW) hlo
  exact own_go st (k T' h' L X' e' N' K' ⟨kb, _, V', by simp [c0, c1]; omega, hb⟩)
end OwnBytes
def own_BS (Z : State) (h : Heap) (n0 : Nat) (a : Addr) (ln sz : Nat) : Prop := ∃ b : Addr, Exa Z h a "com/example/loon/loon/index/ByteSink" ∧ Fld Z h a "com/example/loon/loon/index/ByteSink" "bytes" "[B" (.ref b) ∧ Fld Z h a "com/example/loon/loon/index/ByteSink" "size" "I" (.int (Int32.ofNat sz)) ∧ own_BA Z h b ln ∧ b ≠ a ∧ n0 ≤ b
def Q1 (Z : State) (a : Addr) (h0 : Heap) (n0 : Nat) (v : Option Value) (h : Heap) (L : List Loc) : Prop := v = none ∧ Fr n0 L ∧ n0 ≤ h.size ∧ own_BS Z h n0 a 8 0
theorem ef_rm1 (m : MethodId) (x0 : Addr) : entryFrame m #[(.ref x0)] 1 = mkF m 0 #[.val (.ref x0)] [] := by first | (simp [entryFrame, mkF, argsToLocals, Value.category, maxLocals]; done) | rfl
set_option maxRecDepth 65536 in
set_option maxHeartbeats 40000000 in
theorem rm1 (l : Launch) (Z : State) (a0 : Array Value) (hw : ∀ d ∈ tables_1, d.before a0 Z = true) (ws : List Jvm.Cond) (a : Addr) (h0 : Heap) (n0 : Nat) (Z0 : n0 ≤ h0.size) (ga : n0 ≤ a) (E0 : Exa Z h0 a "com/example/loon/loon/index/ByteSink") (F0 : Fld Z h0 a "com/example/loon/loon/index/ByteSink" "bytes" "[B" .null) (F1 : Fld Z h0 a "com/example/loon/loon/index/ByteSink" "size" "I" (.int 0)) :
    MetFree l own_y1 (head1 (Jvm.Cond.code own_y1 prog_13_method_1_code 1 none :: ws) ({ frames := 1, cells := 1, slots := 8, locals := 12 } : Room)) (fun aR U => aR = #[(.ref a)] ∧ Z.Warmed39 U.vm ∧ U.heap = h0) (fun _ _ _ _ _ => True) (fun _ U o U' => ∃ v L, o = .returned v ∧ Q1 Z a h0 n0 v U'.heap L ∧ FrameEnd U o U' L ({ frames := 1, cells := 1, slots := 8, locals := 12 } : Room).cells ({ frames := 1, cells := 1, slots := 8, locals := 12 } : Room).slots) := by
  refine MetFree.of_bodySF pf_1 hisR ?_
  intro p e s m args below meth c s₁ Bd hml0 hP hK
  obtain ⟨rfl, hZ, hhE⟩ := hP
  have hx := Bd.exec
  have hby := Bd.bytes
  have hml : c.maxLocals = 1 := hml0
  have hown : s.vm.findClass "com/example/loon/loon/index/ByteSink" = some m.cls := findClass_of_methodNamed Bd.named
  have hnm := (name_of_methodNamed Bd.named Bd.method).1
  have X0 : Stand p l e ({ frames := 1, cells := 1, slots := 8, locals := 12 } : Room) s m #[(.ref a)] below meth c s₁ [] 0 0 := Stand.of_body Bd
  have e0 : s₁.heap = h0 := by rw [← hhE, Bd.state]; rfl
  have N0 := Fr.nil n0
  show own_Go p e below (own_Post s (Q1 Z a h0 n0) ({ frames := 1, cells := 1, slots := 8, locals := 12 } : Room).cells ({ frames := 1, cells := 1, slots := 8, locals := 12 } : Room).slots) (s₁.setTop (entryFrame m #[(.ref a)] 1))
  rw [ef_rm1]
  generalize hG : own_Post s (Q1 Z a h0 n0) ({ frames := 1, cells := 1, slots := 8, locals := 12 } : Room).cells ({ frames := 1, cells := 1, slots := 8, locals := 12 } : Room).slots = G
  refine own_aloadN X0 hx (hb hby d1_0) rfl rfl 1 rfl ?_
  refine own_initO X0 hx hZ hown (own_w hw 7 rfl) (own_w hw 8 rfl) (own_w hw 9 rfl) e0 (by rw [hml]; rfl) (hb hby d1_1) (by decide) 0 (Nat.le_of_eq rfl) (by decide) 4 rfl (fun T1 X1 e1 => ?_)
  refine own_aloadN X1 hx (hb hby d1_4) rfl rfl 5 rfl ?_
  refine own_bipush X1 hx (hb hby d1_5) (8 : Int32) rfl 7 rfl ?_
  refine own_newBB X1 hx hZ (own_w hw 10 rfl) e1 (hb hby d1_7) 8 rfl 8 (by decide) (by decide) (by decide) (by decide) 9 rfl (fun T2 h2 a2 g2 X2 e2 E2 V2 => ?_)
  have ne3 : a ≠ a2 := by rw [g2]; exact Nat.ne_of_lt E0.lt
  have ge4 : n0 ≤ a2 := by rw [g2]; exact Z0
  have Z5 : n0 ≤ h2.size := Nat.le_trans Z0 E2.1
  have E6 := E0.ext E2
  have F7 := F0.ext E2
  have F8 := F1.ext E2
  refine own_putF X2 hx hZ hown (own_w hw 11 rfl) Via.refl e2 F7 E6 (Or.inl (own_w hw 12 rfl)) (own_w hw 2 rfl) (ty := (.array .byte)) (v' := (.ref a2)) (by decide) rfl rfl (hb hby d1_9) 12 rfl (fun T9 h9 X9 e9 W9 => ?_)
  have N10 := Fr.snoc X9 N0 ga
  have Z11 : n0 ≤ h9.size := by rw [W9.size]; exact Z5
  have E12 := E6.wr W9
  have F13 := F7.same W9
  have F14 := F8.other W9 (Or.inr (sn_0 hw))
  have V15 := V2.other W9 (Ne.symm ne3)
  refine own_return X9 hx Bd.notSynchronized hG Bd.returns (hb hby d1_12) (by decide) (by decide) ?_
  rw [e9]
  exact ⟨rfl, N10, Z11, ⟨a2, E12, F13, F14, V15, (Ne.symm ne3), ge4⟩⟩
def Q2 (sz : Nat) (h0 : Heap) (n0 : Nat) (v : Option Value) (h : Heap) (L : List Loc) : Prop := v = some (.int (Int32.ofNat sz)) ∧ Fr n0 L ∧ h = h0
theorem ef_rm2 (m : MethodId) (x0 : Addr) : entryFrame m #[(.ref x0)] 1 = mkF m 0 #[.val (.ref x0)] [] := by first | (simp [entryFrame, mkF, argsToLocals, Value.category, maxLocals]; done) | rfl
set_option maxRecDepth 65536 in
set_option maxHeartbeats 40000000 in
theorem rm2 (l : Launch) (Z : State) (a0 : Array Value) (hw : ∀ d ∈ tables_1, d.before a0 Z = true) (ws : List Jvm.Cond) (a : Addr) (sz : Nat) (h0 : Heap) (n0 : Nat) (F1 : Fld Z h0 a "com/example/loon/loon/index/ByteSink" "size" "I" (.int (Int32.ofNat sz))) :
    MetFree l own_y3 (head1 (Jvm.Cond.code own_y3 prog_13_method_4_code 1 (some .int) :: ws) ({ frames := 0, cells := 0, slots := 0, locals := 0 } : Room)) (fun aR U => aR = #[(.ref a)] ∧ Z.Warmed39 U.vm ∧ U.heap = h0) (fun _ _ _ _ _ => True) (fun _ U o U' => ∃ v L, o = .returned v ∧ Q2 sz h0 n0 v U'.heap L ∧ FrameEnd U o U' L ({ frames := 0, cells := 0, slots := 0, locals := 0 } : Room).cells ({ frames := 0, cells := 0, slots := 0, locals := 0 } : Room).slots) := by
  refine MetFree.of_bodySF pf_3 hisR ?_
  intro p e s m args below meth c s₁ Bd hml0 hP hK
  obtain ⟨rfl, hZ, hhE⟩ := hP
  have hx := Bd.exec
  have hby := Bd.bytes
  have hml : c.maxLocals = 1 := hml0
  have hown : s.vm.findClass "com/example/loon/loon/index/ByteSink" = some m.cls := findClass_of_methodNamed Bd.named
  have hnm := (name_of_methodNamed Bd.named Bd.method).1
  have X0 : Stand p l e ({ frames := 0, cells := 0, slots := 0, locals := 0 } : Room) s m #[(.ref a)] below meth c s₁ [] 0 0 := Stand.of_body Bd
  have e0 : s₁.heap = h0 := by rw [← hhE, Bd.state]; rfl
  have N0 := Fr.nil n0
  show own_Go p e below (own_Post s (Q2 sz h0 n0) ({ frames := 0, cells := 0, slots := 0, locals := 0 } : Room).cells ({ frames := 0, cells := 0, slots := 0, locals := 0 } : Room).slots) (s₁.setTop (entryFrame m #[(.ref a)] 1))
  rw [ef_rm2]
  generalize hG : own_Post s (Q2 sz h0 n0) ({ frames := 0, cells := 0, slots := 0, locals := 0 } : Room).cells ({ frames := 0, cells := 0, slots := 0, locals := 0 } : Room).slots = G
  refine own_aloadN X0 hx (hb hby d3_0) rfl rfl 1 rfl ?_
  refine own_getF X0 hx hZ hown (own_w hw 18 rfl) Via.refl e0 F1 (hb hby d3_1) 4 rfl (fun T16 X16 e16 => ?_)
  refine own_ireturn X16 hx Bd.notSynchronized hG Bd.returns (hb hby d3_4) (by decide) (by decide) ?_
  rw [e16]
  exact ⟨rfl, N0, rfl⟩
def Q3 (a b : Int32) (h0 : Heap) (n0 : Nat) (v : Option Value) (h : Heap) (L : List Loc) : Prop := v = some (.int (own_max a b)) ∧ Fr n0 L ∧ h = h0
theorem ef_rm3 (m : MethodId) (x0 : Int32) (x1 : Int32) : entryFrame m #[(.int x0), (.int x1)] 2 = mkF m 0 #[.val (.int x0), .val (.int x1)] [] := by first | (simp [entryFrame, mkF, argsToLocals, Value.category, maxLocals]; done) | rfl
set_option maxRecDepth 65536 in
set_option maxHeartbeats 40000000 in
theorem rm3 (l : Launch) (Z : State) (a0 : Array Value) (hw : ∀ d ∈ tables_1, d.before a0 Z = true) (ws : List Jvm.Cond) (a b : Int32) (h0 : Heap) (n0 : Nat)  :
    MetFree l own_y6 (head1 (Jvm.Cond.code own_y6 jdk_29_method_65_code 2 (some .int) :: ws) ({ frames := 0, cells := 0, slots := 0, locals := 0 } : Room)) (fun aR U => aR = #[(.int a), (.int b)] ∧ Z.Warmed39 U.vm ∧ U.heap = h0) (fun _ _ _ _ _ => True) (fun _ U o U' => ∃ v L, o = .returned v ∧ Q3 a b h0 n0 v U'.heap L ∧ FrameEnd U o U' L ({ frames := 0, cells := 0, slots := 0, locals := 0 } : Room).cells ({ frames := 0, cells := 0, slots := 0, locals := 0 } : Room).slots) := by
  refine MetFree.of_bodySF pf_6 hisR ?_
  intro p e s m args below meth c s₁ Bd hml0 hP hK
  obtain ⟨rfl, hZ, hhE⟩ := hP
  have hx := Bd.exec
  have hby := Bd.bytes
  have hml : c.maxLocals = 2 := hml0
  have hown : s.vm.findClass "java/lang/Math" = some m.cls := findClass_of_methodNamed Bd.named
  have hnm := (name_of_methodNamed Bd.named Bd.method).1
  have X0 : Stand p l e ({ frames := 0, cells := 0, slots := 0, locals := 0 } : Room) s m #[(.int a), (.int b)] below meth c s₁ [] 0 0 := Stand.of_body Bd
  have e0 : s₁.heap = h0 := by rw [← hhE, Bd.state]; rfl
  have N0 := Fr.nil n0
  show own_Go p e below (own_Post s (Q3 a b h0 n0) ({ frames := 0, cells := 0, slots := 0, locals := 0 } : Room).cells ({ frames := 0, cells := 0, slots := 0, locals := 0 } : Room).slots) (s₁.setTop (entryFrame m #[(.int a), (.int b)] 2))
  rw [ef_rm3]
  generalize hG : own_Post s (Q3 a b h0 n0) ({ frames := 0, cells := 0, slots := 0, locals := 0 } : Room).cells ({ frames := 0, cells := 0, slots := 0, locals := 0 } : Room).slots = G
  refine own_iloadN X0 hx (hb hby d6_0) rfl 1 rfl ?_
  refine own_iloadN X0 hx (hb hby d6_1) rfl 2 rfl ?_
  by_cases c17 : a < b
  ·
    refine own_icmpY X0 hx (hb hby d6_2) (tlt c17).1 9 ⟨by decide, by decide⟩ ?_
    refine own_iloadN X0 hx (hb hby d6_9) rfl 10 rfl ?_
    refine own_ireturn X0 hx Bd.notSynchronized hG Bd.returns (hb hby d6_10) (by decide) (by decide) ?_
    rw [e0]
    exact ⟨by unfold own_max; simp [c17], N0, rfl⟩
  ·
    refine own_icmpN X0 hx (hb hby d6_2) (flt c17).1 5 rfl ?_
    refine own_iloadN X0 hx (hb hby d6_5) rfl 6 rfl ?_
    refine own_goto X0 hx (hb hby d6_6) 10 ⟨by decide, by decide⟩ ?_
    refine own_ireturn X0 hx Bd.notSynchronized hG Bd.returns (hb hby d6_10) (by decide) (by decide) ?_
    rw [e0]
    exact ⟨by unfold own_max; simp [c17], N0, rfl⟩
def Q4 (a b : Int32) (h0 : Heap) (n0 : Nat) (v : Option Value) (h : Heap) (L : List Loc) : Prop := v = some (.int (own_min a b)) ∧ Fr n0 L ∧ h = h0
theorem ef_rm4 (m : MethodId) (x0 : Int32) (x1 : Int32) : entryFrame m #[(.int x0), (.int x1)] 2 = mkF m 0 #[.val (.int x0), .val (.int x1)] [] := by first | (simp [entryFrame, mkF, argsToLocals, Value.category, maxLocals]; done) | rfl
set_option maxRecDepth 65536 in
set_option maxHeartbeats 40000000 in
theorem rm4 (l : Launch) (Z : State) (a0 : Array Value) (hw : ∀ d ∈ tables_1, d.before a0 Z = true) (ws : List Jvm.Cond) (a b : Int32) (h0 : Heap) (n0 : Nat)  :
    MetFree l own_y8 (head1 (Jvm.Cond.code own_y8 jdk_29_method_69_code 2 (some .int) :: ws) ({ frames := 0, cells := 0, slots := 0, locals := 0 } : Room)) (fun aR U => aR = #[(.int a), (.int b)] ∧ Z.Warmed39 U.vm ∧ U.heap = h0) (fun _ _ _ _ _ => True) (fun _ U o U' => ∃ v L, o = .returned v ∧ Q4 a b h0 n0 v U'.heap L ∧ FrameEnd U o U' L ({ frames := 0, cells := 0, slots := 0, locals := 0 } : Room).cells ({ frames := 0, cells := 0, slots := 0, locals := 0 } : Room).slots) := by
  refine MetFree.of_bodySF pf_8 hisR ?_
  intro p e s m args below meth c s₁ Bd hml0 hP hK
  obtain ⟨rfl, hZ, hhE⟩ := hP
  have hx := Bd.exec
  have hby := Bd.bytes
  have hml : c.maxLocals = 2 := hml0
  have hown : s.vm.findClass "java/lang/Math" = some m.cls := findClass_of_methodNamed Bd.named
  have hnm := (name_of_methodNamed Bd.named Bd.method).1
  have X0 : Stand p l e ({ frames := 0, cells := 0, slots := 0, locals := 0 } : Room) s m #[(.int a), (.int b)] below meth c s₁ [] 0 0 := Stand.of_body Bd
  have e0 : s₁.heap = h0 := by rw [← hhE, Bd.state]; rfl
  have N0 := Fr.nil n0
  show own_Go p e below (own_Post s (Q4 a b h0 n0) ({ frames := 0, cells := 0, slots := 0, locals := 0 } : Room).cells ({ frames := 0, cells := 0, slots := 0, locals := 0 } : Room).slots) (s₁.setTop (entryFrame m #[(.int a), (.int b)] 2))
  rw [ef_rm4]
  generalize hG : own_Post s (Q4 a b h0 n0) ({ frames := 0, cells := 0, slots := 0, locals := 0 } : Room).cells ({ frames := 0, cells := 0, slots := 0, locals := 0 } : Room).slots = G
  refine own_iloadN X0 hx (hb hby d8_0) rfl 1 rfl ?_
  refine own_iloadN X0 hx (hb hby d8_1) rfl 2 rfl ?_
  by_cases c18 : b < a
  ·
    refine own_icmpY X0 hx (hb hby d8_2) (tlt c18).2.2.1 9 ⟨by decide, by decide⟩ ?_
    refine own_iloadN X0 hx (hb hby d8_9) rfl 10 rfl ?_
    refine own_ireturn X0 hx Bd.notSynchronized hG Bd.returns (hb hby d8_10) (by decide) (by decide) ?_
    rw [e0]
    exact ⟨by unfold own_min; simp [c18], N0, rfl⟩
  ·
    refine own_icmpN X0 hx (hb hby d8_2) (flt c18).2.2.1 5 rfl ?_
    refine own_iloadN X0 hx (hb hby d8_5) rfl 6 rfl ?_
    refine own_goto X0 hx (hb hby d8_6) 10 ⟨by decide, by decide⟩ ?_
    refine own_ireturn X0 hx Bd.notSynchronized hG Bd.returns (hb hby d8_10) (by decide) (by decide) ?_
    rw [e0]
    exact ⟨by unfold own_min; simp [c18], N0, rfl⟩
def Q5 (Z : State) (k : Nat) (h0 : Heap) (n0 : Nat) (v : Option Value) (h : Heap) (L : List Loc) : Prop := ∃ b : Addr, v = some (.ref b) ∧ Fr n0 L ∧ Keep h0 h [] ∧ own_BA Z h b k ∧ h0.size ≤ b
theorem ef_rm5 (m : MethodId) (x0 : Addr) (x1 : Int32) : entryFrame m #[(.ref x0), (.int x1)] 3 = mkF m 0 #[.val (.ref x0), .val (.int x1), .unset] [] := by first | (simp [entryFrame, mkF, argsToLocals, Value.category, maxLocals]; done) | rfl
set_option maxRecDepth 65536 in
set_option maxHeartbeats 40000000 in
theorem rm5 (l : Launch) (Z : State) (a0 : Array Value) (hw : ∀ d ∈ tables_1, d.before a0 Z = true) (ws : List Jvm.Cond) (a : Addr) (n1 k : Nat) (h0 : Heap) (n0 : Nat) (Z0 : n0 ≤ h0.size) (V0 : own_BA Z h0 a n1) (hk : n1 < k) (hk2 : k ≤ 32) :
    MetFree l own_y7 (head1 (Jvm.Cond.code own_y7 jdk_65_method_121_code 3 (some (.array .byte)) :: ws) ({ frames := 1, cells := 1, slots := 32, locals := 60 } : Room)) (fun aR U => aR = #[(.ref a), (.int (Int32.ofNat k))] ∧ Z.Warmed39 U.vm ∧ U.heap = h0) (fun _ _ _ _ _ => True) (fun _ U o U' => ∃ v L, o = .returned v ∧ Q5 Z k h0 n0 v U'.heap L ∧ FrameEnd U o U' L ({ frames := 1, cells := 1, slots := 32, locals := 60 } : Room).cells ({ frames := 1, cells := 1, slots := 32, locals := 60 } : Room).slots) := by
  refine MetFree.of_bodySF pf_7 hisR ?_
  intro p e s m args below meth c s₁ Bd hml0 hP hK
  obtain ⟨rfl, hZ, hhE⟩ := hP
  have hx := Bd.exec
  have hby := Bd.bytes
  have hml : c.maxLocals = 3 := hml0
  have hown : s.vm.findClass "java/util/Arrays" = some m.cls := findClass_of_methodNamed Bd.named
  have hnm := (name_of_methodNamed Bd.named Bd.method).1
  have X0 : Stand p l e ({ frames := 1, cells := 1, slots := 32, locals := 60 } : Room) s m #[(.ref a), (.int (Int32.ofNat k))] below meth c s₁ [] 0 0 := Stand.of_body Bd
  have e0 : s₁.heap = h0 := by rw [← hhE, Bd.state]; rfl
  have N0 := Fr.nil n0
  show own_Go p e below (own_Post s (Q5 Z k h0 n0) ({ frames := 1, cells := 1, slots := 32, locals := 60 } : Room).cells ({ frames := 1, cells := 1, slots := 32, locals := 60 } : Room).slots) (s₁.setTop (entryFrame m #[(.ref a), (.int (Int32.ofNat k))] 3))
  rw [ef_rm5]
  generalize hG : own_Post s (Q5 Z k h0 n0) ({ frames := 1, cells := 1, slots := 32, locals := 60 } : Room).cells ({ frames := 1, cells := 1, slots := 32, locals := 60 } : Room).slots = G
  refine own_iloadN X0 hx (hb hby d7_0) rfl 1 rfl ?_
  refine own_aloadN X0 hx (hb hby d7_1) rfl rfl 2 rfl ?_
  refine own_lenB X0 hx hZ e0 V0 (hb hby d7_2) 3 rfl ?_
  refine own_icmpY X0 hx (hb hby d7_3) (feq (by rw [own_eq32 (by omega) (by omega)]; omega)).2 14 ⟨by decide, by decide⟩ ?_
  refine own_iloadN X0 hx (hb hby d7_14) rfl 15 rfl ?_
  refine own_newBB X0 hx hZ (own_w hw 10 rfl) e0 (hb hby d7_15) k rfl 32 hk2 (by decide) (by decide) (by decide) 17 rfl (fun T19 h19 a19 g19 X19 e19 E19 V19 => ?_)
  have ne20 : a ≠ a19 := by rw [g19]; exact Nat.ne_of_lt V0.lt
  have ge21 : n0 ≤ a19 := by rw [g19]; exact Z0
  have Z22 : n0 ≤ h19.size := Nat.le_trans Z0 E19.1
  have V23 := V0.ext E19
  refine own_astoreN X19 hx (hb hby d7_17) rfl #[.val (.ref a), .val (.int (Int32.ofNat k)), .val (.ref a19)] rfl 18 rfl ?_
  refine own_aloadN X19 hx (hb hby d7_18) rfl rfl 19 rfl ?_
  refine own_iconst X19 hx (hb hby d7_19) (0 : Int32) rfl 20 rfl ?_
  refine own_aloadN X19 hx (hb hby d7_20) rfl rfl 21 rfl ?_
  refine own_iconst X19 hx (hb hby d7_21) (0 : Int32) rfl 22 rfl ?_
  refine own_aloadN X19 hx (hb hby d7_22) rfl rfl 23 rfl ?_
  refine own_lenB X19 hx hZ e19 V23 (hb hby d7_23) 24 rfl ?_
  refine own_iloadN X19 hx (hb hby d7_24) rfl 25 rfl ?_
  refine own_callS X19 hx hZ hown (own_w hw 37 rfl) (own_w hw 38 rfl) (own_w hw 31 rfl) (own_w hw 39 rfl) (by decide) e19 (rm4 l Z a0 hw [] (Int32.ofNat n1) (Int32.ofNat k) h19 n0) (by rw [hml]; rfl) pd_0 (argsL := [(.int (Int32.ofNat n1)), (.int (Int32.ofNat k))]) rfl (rest := [(.int (0 : Int32)), (.ref a19), (.int (0 : Int32)), (.ref a)]) rfl (hb hby d7_25) 4 (Nat.le_of_eq rfl) (by decide) (by decide) (by decide) (by decide) 28 rfl (fun T24 L24 v24 X24 hQ24 => ?_)
  obtain ⟨rfl, N24, e24⟩ := hQ24
  have N25 := Fr.app N0 N24
  show own_Go p e below G (T24.setTop (mkF m 28 #[.val (.ref a), .val (.int (Int32.ofNat k)), .val (.ref a19)] [(.int (own_min (Int32.ofNat n1) (Int32.ofNat k))), (.int (0 : Int32)), (.ref a19), (.int (0 : Int32)), (.ref a)]))
  rw [own_minN (by omega) (by omega) (Nat.le_of_lt hk)]
  refine own_cpB X24 hx hZ hown (own_w hw 40 rfl) (own_w hw 43 rfl) (own_w hw 41 rfl) (own_w hw 42 rfl) e24 V23 V19 (Nat.le_of_lt hk) N25 ge21 (by rw [hml]; rfl) (hb hby d7_28) (by decide) 0 (Nat.le_of_eq rfl) (by decide) 31 rfl (fun T26 h26 L26 X26 e26 N26 K26 V26 => ?_)
  refine own_aloadN X26 hx (hb hby d7_31) rfl rfl 32 rfl ?_
  refine own_areturn X26 hx Bd.notSynchronized hG Bd.returns rfl rfl rfl (hb hby d7_32) (by decide) (by decide) ?_
  rw [e26]
  exact ⟨_, rfl, N26, ((Keep.refl _ _).ext E19).trans K26 (allS (Or.inr (Nat.le_of_eq g19.symm)) all0), V26, Nat.le_of_eq g19.symm⟩
def Q6 (Z : State) (a : Addr) (ln sz : Nat) (h0 : Heap) (n0 : Nat) (v : Option Value) (h : Heap) (L : List Loc) : Prop := v = none ∧ Fr n0 L ∧ n0 ≤ h.size ∧ own_BS Z h n0 a (own_gr ln sz) sz
theorem ef_rm6 (m : MethodId) (x0 : Addr) (x1 : Int32) : entryFrame m #[(.ref x0), (.int x1)] 2 = mkF m 0 #[.val (.ref x0), .val (.int x1)] [] := by first | (simp [entryFrame, mkF, argsToLocals, Value.category, maxLocals]; done) | rfl
set_option maxRecDepth 65536 in
set_option maxHeartbeats 40000000 in
theorem rm6 (l : Launch) (Z : State) (a0 : Array Value) (hw : ∀ d ∈ tables_1, d.before a0 Z = true) (ws : List Jvm.Cond) (a : Addr) (ln sz : Nat) (h0 : Heap) (n0 : Nat) (Z0 : n0 ≤ h0.size) (ga : n0 ≤ a) (B0 : own_BS Z h0 n0 a ln sz) (hs : sz ≤ ln) (hln : 0 < ln) (hl32 : ln ≤ 32) (hgr : ln < sz + 10 → ln ≤ 16 ∧ sz ≤ 22) :
    MetFree l own_y5 (head1 (Jvm.Cond.code own_y5 prog_13_method_7_code 2 none :: ws) ({ frames := 2, cells := 1, slots := 32, locals := 75 } : Room)) (fun aR U => aR = #[(.ref a), (.int (10 : Int32))] ∧ Z.Warmed39 U.vm ∧ U.heap = h0) (fun _ _ _ _ _ => True) (fun _ U o U' => ∃ v L, o = .returned v ∧ Q6 Z a ln sz h0 n0 v U'.heap L ∧ FrameEnd U o U' L ({ frames := 2, cells := 1, slots := 32, locals := 75 } : Room).cells ({ frames := 2, cells := 1, slots := 32, locals := 75 } : Room).slots) := by
  refine MetFree.of_bodySF pf_5 hisR ?_
  intro p e s m args below meth c s₁ Bd hml0 hP hK
  obtain ⟨rfl, hZ, hhE⟩ := hP
  have hx := Bd.exec
  have hby := Bd.bytes
  have hml : c.maxLocals = 2 := hml0
  have hown : s.vm.findClass "com/example/loon/loon/index/ByteSink" = some m.cls := findClass_of_methodNamed Bd.named
  have hnm := (name_of_methodNamed Bd.named Bd.method).1
  have X0 : Stand p l e ({ frames := 2, cells := 1, slots := 32, locals := 75 } : Room) s m #[(.ref a), (.int (10 : Int32))] below meth c s₁ [] 0 0 := Stand.of_body Bd
  have e0 : s₁.heap = h0 := by rw [← hhE, Bd.state]; rfl
  have N0 := Fr.nil n0
  show own_Go p e below (own_Post s (Q6 Z a ln sz h0 n0) ({ frames := 2, cells := 1, slots := 32, locals := 75 } : Room).cells ({ frames := 2, cells := 1, slots := 32, locals := 75 } : Room).slots) (s₁.setTop (entryFrame m #[(.ref a), (.int (10 : Int32))] 2))
  rw [ef_rm6]
  generalize hG : own_Post s (Q6 Z a ln sz h0 n0) ({ frames := 2, cells := 1, slots := 32, locals := 75 } : Room).cells ({ frames := 2, cells := 1, slots := 32, locals := 75 } : Room).slots = G
  obtain ⟨b, E0, Fb0, Fs0, V0, ne0, gb0⟩ := B0
  refine own_aloadN X0 hx (hb hby d5_0) rfl rfl 1 rfl ?_
  refine own_getF X0 hx hZ hown (own_w hw 11 rfl) Via.refl e0 Fb0 (hb hby d5_1) 4 rfl (fun T27 X27 e27 => ?_)
  refine own_lenB X27 hx hZ e27 V0 (hb hby d5_4) 5 rfl ?_
  refine own_aloadN X27 hx (hb hby d5_5) rfl rfl 6 rfl ?_
  refine own_getF X27 hx hZ hown (own_w hw 18 rfl) Via.refl e27 Fs0 (hb hby d5_6) 9 rfl (fun T28 X28 e28 => ?_)
  refine own_isub X28 hx (hb hby d5_9) 10 rfl ?_
  refine own_iloadN X28 hx (hb hby d5_10) rfl 11 rfl ?_
  rw [own_sub32 hs]
  have hcmp : Int32.ofNat (ln - sz) < (10 : Int32) ↔ ln < sz + 10 := (own_lt32 (j := 10) (by omega) (by omega)).trans (by omega)
  by_cases c29 : (Int32.ofNat (ln - sz)) < (10 : Int32)
  ·
    refine own_icmpN X28 hx (hb hby d5_11) (tlt c29).2.1 14 rfl ?_
    have hg := hcmp.mp c29
    have hgl := own_gr_le hgr hl32
    have hgt := (own_gr_gt hg).2 hln
    refine own_aloadN X28 hx (hb hby d5_14) rfl rfl 15 rfl ?_
    refine own_aloadN X28 hx (hb hby d5_15) rfl rfl 16 rfl ?_
    refine own_getF X28 hx hZ hown (own_w hw 11 rfl) Via.refl e28 Fb0 (hb hby d5_16) 19 rfl (fun T30 X30 e30 => ?_)
    refine own_aloadN X30 hx (hb hby d5_19) rfl rfl 20 rfl ?_
    refine own_getF X30 hx hZ hown (own_w hw 11 rfl) Via.refl e30 Fb0 (hb hby d5_20) 23 rfl (fun T31 X31 e31 => ?_)
    refine own_lenB X31 hx hZ e31 V0 (hb hby d5_23) 24 rfl ?_
    refine own_iconst X31 hx (hb hby d5_24) (2 : Int32) rfl 25 rfl ?_
    refine own_imul X31 hx (hb hby d5_25) 26 rfl ?_
    refine own_aloadN X31 hx (hb hby d5_26) rfl rfl 27 rfl ?_
    refine own_getF X31 hx hZ hown (own_w hw 18 rfl) Via.refl e31 Fs0 (hb hby d5_27) 30 rfl (fun T32 X32 e32 => ?_)
    refine own_iloadN X32 hx (hb hby d5_30) rfl 31 rfl ?_
    refine own_iadd X32 hx (hb hby d5_31) 32 rfl ?_
    rw [show Int32.ofNat ln * (2 : Int32) = Int32.ofNat (ln * 2) from (Int32.ofNat_mul ln 2).symm, show Int32.ofNat sz + (10 : Int32) = Int32.ofNat (sz + 10) from (Int32.ofNat_add sz 10).symm]
    refine own_callS X32 hx hZ hown (own_w hw 29 rfl) (own_w hw 30 rfl) (own_w hw 31 rfl) (own_w hw 32 rfl) (by decide) e32 (rm3 l Z a0 hw [] (Int32.ofNat (ln * 2)) (Int32.ofNat (sz + 10)) h0 n0) (by rw [hml]; rfl) pd_0 (argsL := [(.int (Int32.ofNat (ln * 2))), (.int (Int32.ofNat (sz + 10)))]) rfl (rest := [(.ref b), (.ref a)]) rfl (hb hby d5_32) 2 (Nat.le_of_eq rfl) (by decide) (by decide) (by decide) (by decide) 35 rfl (fun T33 L33 v33 X33 hQ33 => ?_)
    obtain ⟨rfl, N33, e33⟩ := hQ33
    have N34 := Fr.app N0 N33
    show own_Go p e below G (T33.setTop (mkF m 35 #[.val (.ref a), .val (.int (10 : Int32))] [(.int (own_max (Int32.ofNat (ln * 2)) (Int32.ofNat (sz + 10)))), (.ref b), (.ref a)]))
    rw [own_maxN (by omega) (by omega), show max (ln * 2) (sz + 10) = own_gr ln sz from (if_pos hg).symm]
    refine own_callS X33 hx hZ hown (own_w hw 33 rfl) (own_w hw 34 rfl) (own_w hw 35 rfl) (own_w hw 36 rfl) (by decide) e33 (rm5 l Z a0 hw [] b ln (own_gr ln sz) h0 n0 Z0 V0 hgt hgl) (by rw [hml]; rfl) pd_1 (argsL := [(.ref b), (.int (Int32.ofNat (own_gr ln sz)))]) rfl (rest := [(.ref a)]) rfl (hb hby d5_35) 1 (Nat.le_of_eq rfl) (by decide) (by decide) (by decide) (by decide) 38 rfl (fun T35 L35 v35 X35 hQ35 => ?_)
    obtain ⟨b35, hQ35⟩ := hQ35
    obtain ⟨rfl, N35, K35, V35, hz35⟩ := hQ35
    have N36 := Fr.app N34 N35
    have E37 := E0.keep K35
    have F38 := Fb0.keep K35 nin0
    have F39 := Fs0.keep K35 nin0
    have V40 := V0.keep K35 nin0
    have Z41 : n0 ≤ T35.heap.size := Nat.le_trans Z0 K35.1
    show own_Go p e below G (T35.setTop (mkF m 38 #[.val (.ref a), .val (.int (10 : Int32))] [(.ref b35), (.ref a)]))
    have ne42 : a ≠ b35 := Nat.ne_of_lt (Nat.lt_of_lt_of_le E0.lt hz35)
    have ge43 : n0 ≤ b35 := Nat.le_trans Z0 hz35
    have ne44 : b ≠ b35 := Nat.ne_of_lt (Nat.lt_of_lt_of_le V0.lt hz35)
    refine own_putF X35 hx hZ hown (own_w hw 11 rfl) Via.refl (rfl : T35.heap = T35.heap) F38 E37 (Or.inl (own_w hw 12 rfl)) (own_w hw 2 rfl) (ty := (.array .byte)) (v' := (.ref b35)) (by decide) rfl rfl (hb hby d5_38) 41 rfl (fun T45 h45 X45 e45 W45 => ?_)
    have N46 := Fr.snoc X45 N36 ga
    have Z47 : n0 ≤ h45.size := by rw [W45.size]; exact Z41
    have E48 := E37.wr W45
    have F49 := F38.same W45
    have F50 := F39.other W45 (Or.inr (sn_0 hw))
    have V51 := V40.other W45 ne0
    have V52 := V35.other W45 (Ne.symm ne42)
    refine own_return X45 hx Bd.notSynchronized hG Bd.returns (hb hby d5_41) (by decide) (by decide) ?_
    rw [e45]
    exact ⟨rfl, N46, Z47, ⟨b35, E48, F49, F50, V52, (Ne.symm ne42), ge43⟩⟩
  ·
    refine own_icmpY X28 hx (hb hby d5_11) (flt c29).2.1 41 ⟨by decide, by decide⟩ ?_
    refine own_return X28 hx Bd.notSynchronized hG Bd.returns (hb hby d5_41) (by decide) (by decide) ?_
    rw [e28]
    exact ⟨rfl, N0, Z0, by rw [show own_gr ln sz = ln from if_neg (fun q => c29 (hcmp.mpr q))]; exact ⟨b, E0, Fb0, Fs0, V0, ne0, gb0⟩⟩
def Q7 (Z : State) (a : Addr) (ln sz xn : Nat) (h0 : Heap) (n0 : Nat) (v : Option Value) (h : Heap) (L : List Loc) : Prop := v = none ∧ Fr n0 L ∧ n0 ≤ h.size ∧ own_BS Z h n0 a (own_gr ln sz) (sz + own_vl 8 xn)
theorem ef_rm7 (m : MethodId) (x0 : Addr) (x1 : Int64) : entryFrame m #[(.ref x0), (.long x1)] 5 = mkF m 0 #[.val (.ref x0), .val (.long x1), .second, .unset, .unset] [] := by first | (simp [entryFrame, mkF, argsToLocals, Value.category, maxLocals]; done) | rfl
set_option maxRecDepth 65536 in
set_option maxHeartbeats 40000000 in
theorem rm7 (l : Launch) (Z : State) (a0 : Array Value) (hw : ∀ d ∈ tables_1, d.before a0 Z = true) (ws : List Jvm.Cond) (a : Addr) (ln sz xn : Nat) (h0 : Heap) (n0 : Nat) (Z0 : n0 ≤ h0.size) (ga : n0 ≤ a) (B0 : own_BS Z h0 n0 a ln sz) (hs : sz ≤ ln) (hln : 0 < ln) (hl32 : ln ≤ 32) (hgr : ln < sz + 10 → ln ≤ 16 ∧ sz ≤ 22) (hxn : xn < 9223372036854775808) :
    MetFree l own_y4 (head1 (Jvm.Cond.code own_y4 prog_13_method_2_code 5 none :: ws) ({ frames := 3, cells := 1, slots := 32, locals := 88 } : Room)) (fun aR U => aR = #[(.ref a), (.long (Int64.ofNat xn))] ∧ Z.Warmed39 U.vm ∧ U.heap = h0) (fun _ _ _ _ _ => True) (fun _ U o U' => ∃ v L, o = .returned v ∧ Q7 Z a ln sz xn h0 n0 v U'.heap L ∧ FrameEnd U o U' L ({ frames := 3, cells := 1, slots := 32, locals := 88 } : Room).cells ({ frames := 3, cells := 1, slots := 32, locals := 88 } : Room).slots) := by
  refine MetFree.of_bodySF pf_4 hisR ?_
  intro p e s m args below meth c s₁ Bd hml0 hP hK
  obtain ⟨rfl, hZ, hhE⟩ := hP
  have hx := Bd.exec
  have hby := Bd.bytes
  have hml : c.maxLocals = 5 := hml0
  have hown : s.vm.findClass "com/example/loon/loon/index/ByteSink" = some m.cls := findClass_of_methodNamed Bd.named
  have hnm := (name_of_methodNamed Bd.named Bd.method).1
  have X0 : Stand p l e ({ frames := 3, cells := 1, slots := 32, locals := 88 } : Room) s m #[(.ref a), (.long (Int64.ofNat xn))] below meth c s₁ [] 0 0 := Stand.of_body Bd
  have e0 : s₁.heap = h0 := by rw [← hhE, Bd.state]; rfl
  have N0 := Fr.nil n0
  show own_Go p e below (own_Post s (Q7 Z a ln sz xn h0 n0) ({ frames := 3, cells := 1, slots := 32, locals := 88 } : Room).cells ({ frames := 3, cells := 1, slots := 32, locals := 88 } : Room).slots) (s₁.setTop (entryFrame m #[(.ref a), (.long (Int64.ofNat xn))] 5))
  rw [ef_rm7]
  generalize hG : own_Post s (Q7 Z a ln sz xn h0 n0) ({ frames := 3, cells := 1, slots := 32, locals := 88 } : Room).cells ({ frames := 3, cells := 1, slots := 32, locals := 88 } : Room).slots = G
  obtain ⟨b, E0, FbX, FsX, VX, neX, gbX⟩ := id B0
  refine own_lloadN X0 hx (hb hby d4_0) rfl 1 rfl ?_
  refine own_lconst X0 hx (hb hby d4_1) (0 : Int64) rfl 2 rfl ?_
  refine own_lcmp X0 hx (hb hby d4_2) 3 rfl ?_
  refine own_ifY X0 hx (hb hby d4_3) (own_nltL (by rw [own_lt64 hxn (j := 0) rfl]; omega)).2 20 ⟨by decide, by decide⟩ ?_
  refine own_aloadN X0 hx (hb hby d4_20) rfl rfl 21 rfl ?_
  refine own_bipush X0 hx (hb hby d4_21) (10 : Int32) rfl 23 rfl ?_
  refine own_callP X0 hx hZ hown (own_w hw 25 rfl) (own_w hw 26 rfl) (own_w hw 27 rfl) (own_niI hZ (own_w hw 2 rfl)) (own_w hw 3 rfl) (own_w hw 28 rfl) (by decide) e0 E0 (rm6 l Z a0 hw [] a ln sz h0 n0 Z0 ga B0 hs hln hl32 hgr) (by rw [hml]; rfl) pd_2 (argsL := [(.int (10 : Int32))]) rfl (rest := []) rfl (hb hby d4_23) 0 (Nat.le_of_eq rfl) (by decide) (by decide) (by decide) (by decide) 26 rfl (fun T53 L53 v53 X53 hQ53 => ?_)
  obtain ⟨rfl, N53, Z53, B53⟩ := hQ53
  have N54 := Fr.app N0 N53
  obtain ⟨b53, E53, Fb53, Fs53, V53, ne53, gb53⟩ := B53
  show own_Go p e below G (T53.setTop (mkF m 26 #[.val (.ref a), .val (.long (Int64.ofNat xn)), .second, .unset, .unset] []))
  refine own_lloadN X53 hx (hb hby d4_26) rfl 27 rfl ?_
  refine own_lstoreN X53 hx (hb hby d4_27) #[.val (.ref a), .val (.long (Int64.ofNat xn)), .second, .val (.long (Int64.ofNat xn)), .second] rfl 28 rfl ?_
  have fin : ∀ (xx ss : Nat) (T' : State) (hh : Heap) (lc : List Loc), ss < own_gr ln sz → ss + 1 = sz + own_vl 8 xn → Stand p l e ({ frames := 3, cells := 1, slots := 32, locals := 88 } : Room) s m #[.ref a, .long (Int64.ofNat xn)] below meth c T' lc (0 + 1) (0 + 32) → T'.heap = hh → Fr n0 lc → n0 ≤ hh.size → Exa Z hh a "com/example/loon/loon/index/ByteSink" → Fld Z hh a "com/example/loon/loon/index/ByteSink" "bytes" "[B" (.ref b53) → Fld Z hh a "com/example/loon/loon/index/ByteSink" "size" "I" (.int (Int32.ofNat ss)) → own_BA Z hh b53 (own_gr ln sz) → own_Go p e below G (T'.setTop (mkF m 67 #[.val (.ref a), .val (.long (Int64.ofNat xn)), .second, .val (.long (Int64.ofNat xx)), .second] [])) := by
    intro xx ss T' hh lc hss hfin X' e' N' Z' E' Fb' Fs' V'
    refine own_aloadN X' hx (hb hby d4_67) rfl rfl 68 rfl ?_
    refine own_getF X' hx hZ hown (own_w hw 11 rfl) Via.refl e' Fb' (hb hby d4_68) 71 rfl (fun T55 X55 e55 => ?_)
    refine own_aloadN X55 hx (hb hby d4_71) rfl rfl 72 rfl ?_
    refine own_dup X55 hx (hb hby d4_72) rfl 73 rfl ?_
    refine own_getF X55 hx hZ hown (own_w hw 18 rfl) Via.refl e55 Fs' (hb hby d4_73) 76 rfl (fun T56 X56 e56 => ?_)
    refine own_dupX1 X56 hx (hb hby d4_76) rfl rfl 77 rfl ?_
    refine own_iconst X56 hx (hb hby d4_77) (1 : Int32) rfl 78 rfl ?_
    refine own_iadd X56 hx (hb hby d4_78) 79 rfl ?_
    rw [show Int32.ofNat ss + (1 : Int32) = Int32.ofNat (ss + 1) from (Int32.ofNat_add ss 1).symm]
    refine own_putF X56 hx hZ hown (own_w hw 18 rfl) Via.refl e56 Fs' E' (Or.inl (own_w hw 19 rfl)) (own_w hw 2 rfl) (ty := .int) (v' := (.int (Int32.ofNat (ss + 1)))) (by decide) rfl rfl (hb hby d4_79) 82 rfl (fun T57 h57 X57 e57 W57 => ?_)
    have N58 := Fr.snoc X57 N' ga
    have Z59 : n0 ≤ h57.size := by rw [W57.size]; exact Z'
    have E60 := E'.wr W57
    have F61 := Fb'.other W57 (Or.inr (sn_1 hw))
    have F62 := Fs'.same W57
    have V63 := V'.other W57 ne53
    refine own_lloadN X57 hx (hb hby d4_82) rfl 83 rfl ?_
    refine own_l2i X57 hx (hb hby d4_83) 84 rfl ?_
    refine own_i2b X57 hx (hb hby d4_84) 85 rfl ?_
    refine own_stB X57 hx hZ e57 V63 ss rfl (by omega) (hb hby d4_85) 86 rfl (fun T64 h64 X64 e64 W64 V64 => ?_)
    have N65 := Fr.snoc X64 N58 gb53
    have Z66 : n0 ≤ h64.size := by rw [W64.size]; exact Z59
    have E67 := E60.wr W64
    have F68 := F61.other W64 (Or.inl (Ne.symm ne53))
    have F69 := F62.other W64 (Or.inl (Ne.symm ne53))
    refine own_return X64 hx Bd.notSynchronized hG Bd.returns (hb hby d4_86) (by decide) (by decide) ?_
    rw [e64]
    exact ⟨rfl, N65, Z66, hfin ▸ ⟨b53, E67, F68, F69, V64, ne53, gb53⟩⟩
  have hgg := own_gr_ge ln sz
  have loop : ∀ (f xx ss : Nat) (T' : State) (hh : Heap) (lc : List Loc), xx < 9223372036854775808 → xx < 128 ^ (f + 1) → ss + (f + 1) ≤ own_gr ln sz → ss + own_vl f xx = sz + own_vl 8 xn → Stand p l e ({ frames := 3, cells := 1, slots := 32, locals := 88 } : Room) s m #[.ref a, .long (Int64.ofNat xn)] below meth c T' lc (0 + 1) (0 + 32) → T'.heap = hh → Fr n0 lc → n0 ≤ hh.size → Exa Z hh a "com/example/loon/loon/index/ByteSink" → Fld Z hh a "com/example/loon/loon/index/ByteSink" "bytes" "[B" (.ref b53) → Fld Z hh a "com/example/loon/loon/index/ByteSink" "size" "I" (.int (Int32.ofNat ss)) → own_BA Z hh b53 (own_gr ln sz) → own_Go p e below G (T'.setTop (mkF m 28 #[.val (.ref a), .val (.long (Int64.ofNat xn)), .second, .val (.long (Int64.ofNat xx)), .second] [])) := by
    intro f
    induction f with
    | zero =>
      intro xx ss T' hh lc hxx hx1 hss hfin X' e' N' Z' E' Fb' Fs' V'
      refine own_lloadN X' hx (hb hby d4_28) rfl 29 rfl ?_
      refine own_ldc2Long X' hx hown (mvT hZ (own_w hw 44 rfl)) (hb hby d4_29) 32 rfl ?_
      refine own_lcmp X' hx (hb hby d4_32) 33 rfl ?_
      refine own_ifY X' hx (hb hby d4_33) (own_ltL (by rw [own_lt64 hxx (j := 128) rfl]; omega)).1 67 ⟨by decide, by decide⟩ ?_
      exact fin xx ss T' hh lc (by omega) hfin X' e' N' Z' E' Fb' Fs' V'
    | succ f ih =>
      intro xx ss T' hh lc hxx hx1 hss hfin X' e' N' Z' E' Fb' Fs' V'
      have hc := own_lt64 hxx (z := 128) (j := 128) rfl
      refine own_lloadN X' hx (hb hby d4_28) rfl 29 rfl ?_
      refine own_ldc2Long X' hx hown (mvT hZ (own_w hw 44 rfl)) (hb hby d4_29) 32 rfl ?_
      refine own_lcmp X' hx (hb hby d4_32) 33 rfl ?_
      by_cases c70 : (Int64.ofNat xx) < (128 : Int64)
      ·
        refine own_ifY X' hx (hb hby d4_33) (own_ltL c70).1 67 ⟨by decide, by decide⟩ ?_
        have hq := hc.mp c70
        exact fin xx ss T' hh lc (by omega) (by rw [← hfin]; unfold own_vl; rw [if_pos hq]) X' e' N' Z' E' Fb' Fs' V'
      ·
        refine own_ifN X' hx (hb hby d4_33) (own_nltL c70).1 36 rfl ?_
        have hq := fun q => c70 (hc.mpr q)
        refine own_aloadN X' hx (hb hby d4_36) rfl rfl 37 rfl ?_
        refine own_getF X' hx hZ hown (own_w hw 11 rfl) Via.refl e' Fb' (hb hby d4_37) 40 rfl (fun T71 X71 e71 => ?_)
        refine own_aloadN X71 hx (hb hby d4_40) rfl rfl 41 rfl ?_
        refine own_dup X71 hx (hb hby d4_41) rfl 42 rfl ?_
        refine own_getF X71 hx hZ hown (own_w hw 18 rfl) Via.refl e71 Fs' (hb hby d4_42) 45 rfl (fun T72 X72 e72 => ?_)
        refine own_dupX1 X72 hx (hb hby d4_45) rfl rfl 46 rfl ?_
        refine own_iconst X72 hx (hb hby d4_46) (1 : Int32) rfl 47 rfl ?_
        refine own_iadd X72 hx (hb hby d4_47) 48 rfl ?_
        rw [show Int32.ofNat ss + (1 : Int32) = Int32.ofNat (ss + 1) from (Int32.ofNat_add ss 1).symm]
        refine own_putF X72 hx hZ hown (own_w hw 18 rfl) Via.refl e72 Fs' E' (Or.inl (own_w hw 19 rfl)) (own_w hw 2 rfl) (ty := .int) (v' := (.int (Int32.ofNat (ss + 1)))) (by decide) rfl rfl (hb hby d4_48) 51 rfl (fun T73 h73 X73 e73 W73 => ?_)
        have N74 := Fr.snoc X73 N' ga
        have Z75 : n0 ≤ h73.size := by rw [W73.size]; exact Z'
        have E76 := E'.wr W73
        have F77 := Fb'.other W73 (Or.inr (sn_1 hw))
        have F78 := Fs'.same W73
        have V79 := V'.other W73 ne53
        refine own_lloadN X73 hx (hb hby d4_51) rfl 52 rfl ?_
        refine own_ldc2Long X73 hx hown (mvT hZ (own_w hw 44 rfl)) (hb hby d4_52) 55 rfl ?_
        refine own_lor X73 hx (hb hby d4_55) 56 rfl ?_
        refine own_l2i X73 hx (hb hby d4_56) 57 rfl ?_
        refine own_i2b X73 hx (hb hby d4_57) 58 rfl ?_
        refine own_stB X73 hx hZ e73 V79 ss rfl (by omega) (hb hby d4_58) 59 rfl (fun T80 h80 X80 e80 W80 V80 => ?_)
        have N81 := Fr.snoc X80 N74 gb53
        have Z82 : n0 ≤ h80.size := by rw [W80.size]; exact Z75
        have E83 := E76.wr W80
        have F84 := F77.other W80 (Or.inl (Ne.symm ne53))
        have F85 := F78.other W80 (Or.inl (Ne.symm ne53))
        refine own_lloadN X80 hx (hb hby d4_59) rfl 60 rfl ?_
        refine own_bipush X80 hx (hb hby d4_60) (7 : Int32) rfl 62 rfl ?_
        refine own_lushr X80 hx (hb hby d4_62) 63 rfl ?_
        refine own_lstoreN X80 hx (hb hby d4_63) #[.val (.ref a), .val (.long (Int64.ofNat xn)), .second, .val (.long (((Int64.ofNat xx)).toUInt64 >>> ((7 : Int32) &&& 0x3f).toInt64.toUInt64).toInt64), .second] rfl 64 rfl ?_
        refine own_goto X80 hx (hb hby d4_64) 28 ⟨by decide, by decide⟩ ?_
        rw [own_sh7 hxx]
        exact ih (xx / 128) (ss + 1) T80 h80 _ (by omega) (by rw [Nat.div_lt_iff_lt_mul (by decide)]; exact hx1) (by omega) (by rw [← hfin]; show _ = ss + own_vl (f + 1) xx; rw [own_vl, if_neg hq]; omega) X80 e80 N81 Z82 E83 F84 F85 V80
  exact loop 8 xn sz T53 T53.heap _ hxn (by omega) (by omega) rfl X53 (rfl : T53.heap = T53.heap) N54 Z53 E53 Fb53 Fs53 V53
def Q8 (xn : Nat) (h0 : Heap) (n0 : Nat) (v : Option Value) (h : Heap) (L : List Loc) : Prop := v = some (.int (Int32.ofNat (own_vl 8 xn))) ∧ Fr n0 L ∧ h = h0
theorem ef_rm8 (m : MethodId) (x0 : Int64) : entryFrame m #[(.long x0)] 2 = mkF m 0 #[.val (.long x0), .second] [] := by first | (simp [entryFrame, mkF, argsToLocals, Value.category, maxLocals]; done) | rfl
set_option maxRecDepth 65536 in
set_option maxHeartbeats 40000000 in
theorem rm8 (l : Launch) (Z : State) (a0 : Array Value) (hw : ∀ d ∈ tables_1, d.before a0 Z = true) (ws : List Jvm.Cond) (xn : Nat) (h0 : Heap) (n0 : Nat) (hxn : xn < 9223372036854775808) :
    MetFree l own_y9 (head1 (Jvm.Cond.code own_y9 method_2_code 2 (some .int) :: ws) ({ frames := 0, cells := 0, slots := 0, locals := 0 } : Room)) (fun aR U => aR = #[(.long (Int64.ofNat xn))] ∧ Z.Warmed39 U.vm ∧ U.heap = h0) (fun _ _ _ _ _ => True) (fun _ U o U' => ∃ v L, o = .returned v ∧ Q8 xn h0 n0 v U'.heap L ∧ FrameEnd U o U' L ({ frames := 0, cells := 0, slots := 0, locals := 0 } : Room).cells ({ frames := 0, cells := 0, slots := 0, locals := 0 } : Room).slots) := by
  refine MetFree.of_bodySF pf_9 hisR ?_
  intro p e s m args below meth c s₁ Bd hml0 hP hK
  obtain ⟨rfl, hZ, hhE⟩ := hP
  have hx := Bd.exec
  have hby := Bd.bytes
  have hml : c.maxLocals = 2 := hml0
  have hown : s.vm.findClass "com/example/loon/loon/index/ByteSinkPutVarLongPinLaw" = some m.cls := findClass_of_methodNamed Bd.named
  have hnm := (name_of_methodNamed Bd.named Bd.method).1
  have X0 : Stand p l e ({ frames := 0, cells := 0, slots := 0, locals := 0 } : Room) s m #[(.long (Int64.ofNat xn))] below meth c s₁ [] 0 0 := Stand.of_body Bd
  have e0 : s₁.heap = h0 := by rw [← hhE, Bd.state]; rfl
  have N0 := Fr.nil n0
  show own_Go p e below (own_Post s (Q8 xn h0 n0) ({ frames := 0, cells := 0, slots := 0, locals := 0 } : Room).cells ({ frames := 0, cells := 0, slots := 0, locals := 0 } : Room).slots) (s₁.setTop (entryFrame m #[(.long (Int64.ofNat xn))] 2))
  rw [ef_rm8]
  generalize hG : own_Post s (Q8 xn h0 n0) ({ frames := 0, cells := 0, slots := 0, locals := 0 } : Room).cells ({ frames := 0, cells := 0, slots := 0, locals := 0 } : Room).slots = G
  refine own_lloadN X0 hx (hb hby d9_0) rfl 1 rfl ?_
  refine own_ldc2Long X0 hx hown (mvT hZ (own_w hw 49 rfl)) (hb hby d9_1) 4 rfl ?_
  refine own_lcmp X0 hx (hb hby d9_4) 5 rfl ?_
  by_cases c86 : (Int64.ofNat xn) < (128 : Int64)
  ·
    refine own_ifN X0 hx (hb hby d9_5) (own_ltL c86).2 8 rfl ?_
    have q87 := own_lt64 hxn (z := 128) (j := 128) rfl
    have g88 : (xn < 128) = True := eq_true (q87.mp c86)
    refine own_iconst X0 hx (hb hby d9_8) (1 : Int32) rfl 9 rfl ?_
    have hv : own_vl 8 xn = 1 := by rw [own_len xn hxn]; simp only [g88, if_true, if_false]
    refine own_ireturn X0 hx Bd.notSynchronized hG Bd.returns (hb hby d9_9) (by decide) (by decide) ?_
    rw [e0]
    exact ⟨by rw [hv]; rfl, N0, rfl⟩
  ·
    refine own_ifY X0 hx (hb hby d9_5) (own_nltL c86).2 10 ⟨by decide, by decide⟩ ?_
    have q89 := own_lt64 hxn (z := 128) (j := 128) rfl
    have g90 : (xn < 128) = False := eq_false (fun w => c86 (q89.mpr w))
    refine own_lloadN X0 hx (hb hby d9_10) rfl 11 rfl ?_
    refine own_ldc2Long X0 hx hown (mvT hZ (own_w hw 50 rfl)) (hb hby d9_11) 14 rfl ?_
    refine own_lcmp X0 hx (hb hby d9_14) 15 rfl ?_
    by_cases c91 : (Int64.ofNat xn) < (16384 : Int64)
    ·
      refine own_ifN X0 hx (hb hby d9_15) (own_ltL c91).2 18 rfl ?_
      have q92 := own_lt64 hxn (z := 16384) (j := 16384) rfl
      have g93 : (xn < 16384) = True := eq_true (q92.mp c91)
      refine own_iconst X0 hx (hb hby d9_18) (2 : Int32) rfl 19 rfl ?_
      have hv : own_vl 8 xn = 2 := by rw [own_len xn hxn]; simp only [g90, g93, if_true, if_false]
      refine own_ireturn X0 hx Bd.notSynchronized hG Bd.returns (hb hby d9_19) (by decide) (by decide) ?_
      rw [e0]
      exact ⟨by rw [hv]; rfl, N0, rfl⟩
    ·
      refine own_ifY X0 hx (hb hby d9_15) (own_nltL c91).2 20 ⟨by decide, by decide⟩ ?_
      have q94 := own_lt64 hxn (z := 16384) (j := 16384) rfl
      have g95 : (xn < 16384) = False := eq_false (fun w => c91 (q94.mpr w))
      refine own_lloadN X0 hx (hb hby d9_20) rfl 21 rfl ?_
      refine own_ldc2Long X0 hx hown (mvT hZ (own_w hw 51 rfl)) (hb hby d9_21) 24 rfl ?_
      refine own_lcmp X0 hx (hb hby d9_24) 25 rfl ?_
      by_cases c96 : (Int64.ofNat xn) < (2097152 : Int64)
      ·
        refine own_ifN X0 hx (hb hby d9_25) (own_ltL c96).2 28 rfl ?_
        have q97 := own_lt64 hxn (z := 2097152) (j := 2097152) rfl
        have g98 : (xn < 2097152) = True := eq_true (q97.mp c96)
        refine own_iconst X0 hx (hb hby d9_28) (3 : Int32) rfl 29 rfl ?_
        have hv : own_vl 8 xn = 3 := by rw [own_len xn hxn]; simp only [g90, g95, g98, if_true, if_false]
        refine own_ireturn X0 hx Bd.notSynchronized hG Bd.returns (hb hby d9_29) (by decide) (by decide) ?_
        rw [e0]
        exact ⟨by rw [hv]; rfl, N0, rfl⟩
      ·
        refine own_ifY X0 hx (hb hby d9_25) (own_nltL c96).2 30 ⟨by decide, by decide⟩ ?_
        have q99 := own_lt64 hxn (z := 2097152) (j := 2097152) rfl
        have g100 : (xn < 2097152) = False := eq_false (fun w => c96 (q99.mpr w))
        refine own_lloadN X0 hx (hb hby d9_30) rfl 31 rfl ?_
        refine own_ldc2Long X0 hx hown (mvT hZ (own_w hw 52 rfl)) (hb hby d9_31) 34 rfl ?_
        refine own_lcmp X0 hx (hb hby d9_34) 35 rfl ?_
        by_cases c101 : (Int64.ofNat xn) < (268435456 : Int64)
        ·
          refine own_ifN X0 hx (hb hby d9_35) (own_ltL c101).2 38 rfl ?_
          have q102 := own_lt64 hxn (z := 268435456) (j := 268435456) rfl
          have g103 : (xn < 268435456) = True := eq_true (q102.mp c101)
          refine own_iconst X0 hx (hb hby d9_38) (4 : Int32) rfl 39 rfl ?_
          have hv : own_vl 8 xn = 4 := by rw [own_len xn hxn]; simp only [g90, g95, g100, g103, if_true, if_false]
          refine own_ireturn X0 hx Bd.notSynchronized hG Bd.returns (hb hby d9_39) (by decide) (by decide) ?_
          rw [e0]
          exact ⟨by rw [hv]; rfl, N0, rfl⟩
        ·
          refine own_ifY X0 hx (hb hby d9_35) (own_nltL c101).2 40 ⟨by decide, by decide⟩ ?_
          have q104 := own_lt64 hxn (z := 268435456) (j := 268435456) rfl
          have g105 : (xn < 268435456) = False := eq_false (fun w => c101 (q104.mpr w))
          refine own_lloadN X0 hx (hb hby d9_40) rfl 41 rfl ?_
          refine own_ldc2Long X0 hx hown (mvT hZ (own_w hw 53 rfl)) (hb hby d9_41) 44 rfl ?_
          refine own_lcmp X0 hx (hb hby d9_44) 45 rfl ?_
          by_cases c106 : (Int64.ofNat xn) < (34359738368 : Int64)
          ·
            refine own_ifN X0 hx (hb hby d9_45) (own_ltL c106).2 48 rfl ?_
            have q107 := own_lt64 hxn (z := 34359738368) (j := 34359738368) rfl
            have g108 : (xn < 34359738368) = True := eq_true (q107.mp c106)
            refine own_iconst X0 hx (hb hby d9_48) (5 : Int32) rfl 49 rfl ?_
            have hv : own_vl 8 xn = 5 := by rw [own_len xn hxn]; simp only [g90, g95, g100, g105, g108, if_true, if_false]
            refine own_ireturn X0 hx Bd.notSynchronized hG Bd.returns (hb hby d9_49) (by decide) (by decide) ?_
            rw [e0]
            exact ⟨by rw [hv]; rfl, N0, rfl⟩
          ·
            refine own_ifY X0 hx (hb hby d9_45) (own_nltL c106).2 50 ⟨by decide, by decide⟩ ?_
            have q109 := own_lt64 hxn (z := 34359738368) (j := 34359738368) rfl
            have g110 : (xn < 34359738368) = False := eq_false (fun w => c106 (q109.mpr w))
            refine own_lloadN X0 hx (hb hby d9_50) rfl 51 rfl ?_
            refine own_ldc2Long X0 hx hown (mvT hZ (own_w hw 54 rfl)) (hb hby d9_51) 54 rfl ?_
            refine own_lcmp X0 hx (hb hby d9_54) 55 rfl ?_
            by_cases c111 : (Int64.ofNat xn) < (4398046511104 : Int64)
            ·
              refine own_ifN X0 hx (hb hby d9_55) (own_ltL c111).2 58 rfl ?_
              have q112 := own_lt64 hxn (z := 4398046511104) (j := 4398046511104) rfl
              have g113 : (xn < 4398046511104) = True := eq_true (q112.mp c111)
              refine own_bipush X0 hx (hb hby d9_58) (6 : Int32) rfl 60 rfl ?_
              have hv : own_vl 8 xn = 6 := by rw [own_len xn hxn]; simp only [g90, g95, g100, g105, g110, g113, if_true, if_false]
              refine own_ireturn X0 hx Bd.notSynchronized hG Bd.returns (hb hby d9_60) (by decide) (by decide) ?_
              rw [e0]
              exact ⟨by rw [hv]; rfl, N0, rfl⟩
            ·
              refine own_ifY X0 hx (hb hby d9_55) (own_nltL c111).2 61 ⟨by decide, by decide⟩ ?_
              have q114 := own_lt64 hxn (z := 4398046511104) (j := 4398046511104) rfl
              have g115 : (xn < 4398046511104) = False := eq_false (fun w => c111 (q114.mpr w))
              refine own_lloadN X0 hx (hb hby d9_61) rfl 62 rfl ?_
              refine own_ldc2Long X0 hx hown (mvT hZ (own_w hw 55 rfl)) (hb hby d9_62) 65 rfl ?_
              refine own_lcmp X0 hx (hb hby d9_65) 66 rfl ?_
              by_cases c116 : (Int64.ofNat xn) < (562949953421312 : Int64)
              ·
                refine own_ifN X0 hx (hb hby d9_66) (own_ltL c116).2 69 rfl ?_
                have q117 := own_lt64 hxn (z := 562949953421312) (j := 562949953421312) rfl
                have g118 : (xn < 562949953421312) = True := eq_true (q117.mp c116)
                refine own_bipush X0 hx (hb hby d9_69) (7 : Int32) rfl 71 rfl ?_
                have hv : own_vl 8 xn = 7 := by rw [own_len xn hxn]; simp only [g90, g95, g100, g105, g110, g115, g118, if_true, if_false]
                refine own_ireturn X0 hx Bd.notSynchronized hG Bd.returns (hb hby d9_71) (by decide) (by decide) ?_
                rw [e0]
                exact ⟨by rw [hv]; rfl, N0, rfl⟩
              ·
                refine own_ifY X0 hx (hb hby d9_66) (own_nltL c116).2 72 ⟨by decide, by decide⟩ ?_
                have q119 := own_lt64 hxn (z := 562949953421312) (j := 562949953421312) rfl
                have g120 : (xn < 562949953421312) = False := eq_false (fun w => c116 (q119.mpr w))
                refine own_lloadN X0 hx (hb hby d9_72) rfl 73 rfl ?_
                refine own_ldc2Long X0 hx hown (mvT hZ (own_w hw 56 rfl)) (hb hby d9_73) 76 rfl ?_
                refine own_lcmp X0 hx (hb hby d9_76) 77 rfl ?_
                by_cases c121 : (Int64.ofNat xn) < (72057594037927936 : Int64)
                ·
                  refine own_ifN X0 hx (hb hby d9_77) (own_ltL c121).2 80 rfl ?_
                  have q122 := own_lt64 hxn (z := 72057594037927936) (j := 72057594037927936) rfl
                  have g123 : (xn < 72057594037927936) = True := eq_true (q122.mp c121)
                  refine own_bipush X0 hx (hb hby d9_80) (8 : Int32) rfl 82 rfl ?_
                  have hv : own_vl 8 xn = 8 := by rw [own_len xn hxn]; simp only [g90, g95, g100, g105, g110, g115, g120, g123, if_true, if_false]
                  refine own_ireturn X0 hx Bd.notSynchronized hG Bd.returns (hb hby d9_82) (by decide) (by decide) ?_
                  rw [e0]
                  exact ⟨by rw [hv]; rfl, N0, rfl⟩
                ·
                  refine own_ifY X0 hx (hb hby d9_77) (own_nltL c121).2 83 ⟨by decide, by decide⟩ ?_
                  have q124 := own_lt64 hxn (z := 72057594037927936) (j := 72057594037927936) rfl
                  have g125 : (xn < 72057594037927936) = False := eq_false (fun w => c121 (q124.mpr w))
                  refine own_bipush X0 hx (hb hby d9_83) (9 : Int32) rfl 85 rfl ?_
                  have hv : own_vl 8 xn = 9 := by rw [own_len xn hxn]; simp only [g90, g95, g100, g105, g110, g115, g120, g125, if_true, if_false]
                  refine own_ireturn X0 hx Bd.notSynchronized hG Bd.returns (hb hby d9_85) (by decide) (by decide) ?_
                  rw [e0]
                  exact ⟨by rw [hv]; rfl, N0, rfl⟩
def Q0 (h0 : Heap) (n0 : Nat) (v : Option Value) (h : Heap) (L : List Loc) : Prop := v = some (.int 1) ∧ Fr n0 L
theorem ef_rm0 (m : MethodId) (x0 : Int64) (x1 : Int32) (x2 : Int64) (x3 : Int32) (x4 : Int64) (x5 : Int32) : entryFrame m #[(.long x0), (.int x1), (.long x2), (.int x3), (.long x4), (.int x5)] maxLocals = mkF m 0 #[.val (.long x0), .second, .val (.int x1), .val (.long x2), .second, .val (.int x3), .val (.long x4), .second, .val (.int x5), .unset, .unset, .unset, .unset, .unset, .unset, .unset, .unset, .unset, .unset, .unset, .unset, .unset, .unset] [] := by first | (simp [entryFrame, mkF, argsToLocals, Value.category, maxLocals]; done) | rfl
set_option maxRecDepth 65536 in
set_option maxHeartbeats 40000000 in
theorem rm0 (l : Launch) (Z : State) (a0 : Array Value) (hw : ∀ d ∈ tables_1, d.before a0 Z = true) (ws : List Jvm.Cond) (v0 : Int64) (v1 : Int32) (v2 : Int64) (v3 : Int32) (v4 : Int64) (v5 : Int32) (h0 : Heap) (n0 : Nat) (Z0 : n0 ≤ h0.size) :
    MetFree l x (head1 (Jvm.Cond.code x code maxLocals ret :: ws) room_1) (fun aR U => aR = #[(.long v0), (.int v1), (.long v2), (.int v3), (.long v4), (.int v5)] ∧ Z.Warmed39 U.vm ∧ U.heap = h0) (fun _ _ _ _ _ => True) (fun _ U o U' => ∃ v L, o = .returned v ∧ Q0 h0 n0 v U'.heap L ∧ FrameEnd U o U' L room_1.cells room_1.slots) := by
  refine MetFree.of_bodySF (plainFor_of_name pn_0) hisR ?_
  intro p e s m args below meth c s₁ Bd hml0 hP hK
  obtain ⟨rfl, hZ, hhE⟩ := hP
  have hx := Bd.exec
  have hby := Bd.bytes
  have hml : c.maxLocals = 23 := hml0
  have hown : s.vm.findClass "com/example/loon/loon/index/ByteSinkPutVarLongPinLaw" = some m.cls := findClass_of_methodNamed Bd.named
  have hnm := (name_of_methodNamed Bd.named Bd.method).1
  have X0 : Stand p l e room_1 s m #[(.long v0), (.int v1), (.long v2), (.int v3), (.long v4), (.int v5)] below meth c s₁ [] 0 0 := Stand.of_body Bd
  have e0 : s₁.heap = h0 := by rw [← hhE, Bd.state]; rfl
  have N0 := Fr.nil n0
  show own_Go p e below (own_Post s (Q0 h0 n0) room_1.cells room_1.slots) (s₁.setTop (entryFrame m #[(.long v0), (.int v1), (.long v2), (.int v3), (.long v4), (.int v5)] maxLocals))
  rw [ef_rm0]
  generalize hG : own_Post s (Q0 h0 n0) room_1.cells room_1.slots = G
  refine own_lloadN X0 hx (hb hby at_0) rfl 1 rfl ?_
  refine own_ldc2Long X0 hx hown (mvT hZ (own_w hw 0 rfl)) (hb hby at_1) 4 rfl ?_
  refine own_land X0 hx (hb hby at_4) 5 rfl ?_
  refine own_iloadN X0 hx (hb hby at_5) rfl 6 rfl ?_
  refine own_bipush X0 hx (hb hby at_6) (63 : Int32) rfl 8 rfl ?_
  refine own_iand X0 hx (hb hby at_8) 9 rfl ?_
  refine own_lushr X0 hx (hb hby at_9) 10 rfl ?_
  generalize hy126 : (((v0 &&& (9223372036854775807 : Int64))).toUInt64 >>> ((v1 &&& (63 : Int32)) &&& 0x3f).toInt64.toUInt64).toInt64 = y126
  refine own_lstore X0 hx (hb hby at_10) #[.val (.long v0), .second, .val (.int v1), .val (.long v2), .second, .val (.int v3), .val (.long v4), .second, .val (.int v5), .val (.long y126), .second, .unset, .unset, .unset, .unset, .unset, .unset, .unset, .unset, .unset, .unset, .unset, .unset] rfl 12 rfl ?_
  refine own_lloadN X0 hx (hb hby at_12) rfl 13 rfl ?_
  refine own_ldc2Long X0 hx hown (mvT hZ (own_w hw 0 rfl)) (hb hby at_13) 16 rfl ?_
  refine own_land X0 hx (hb hby at_16) 17 rfl ?_
  refine own_iload X0 hx (hb hby at_17) rfl 19 rfl ?_
  refine own_bipush X0 hx (hb hby at_19) (63 : Int32) rfl 21 rfl ?_
  refine own_iand X0 hx (hb hby at_21) 22 rfl ?_
  refine own_lushr X0 hx (hb hby at_22) 23 rfl ?_
  generalize hy127 : (((v2 &&& (9223372036854775807 : Int64))).toUInt64 >>> ((v3 &&& (63 : Int32)) &&& 0x3f).toInt64.toUInt64).toInt64 = y127
  refine own_lstore X0 hx (hb hby at_23) #[.val (.long v0), .second, .val (.int v1), .val (.long v2), .second, .val (.int v3), .val (.long v4), .second, .val (.int v5), .val (.long y126), .second, .val (.long y127), .second, .unset, .unset, .unset, .unset, .unset, .unset, .unset, .unset, .unset, .unset] rfl 25 rfl ?_
  refine own_lload X0 hx (hb hby at_25) rfl 27 rfl ?_
  refine own_ldc2Long X0 hx hown (mvT hZ (own_w hw 0 rfl)) (hb hby at_27) 30 rfl ?_
  refine own_land X0 hx (hb hby at_30) 31 rfl ?_
  refine own_iload X0 hx (hb hby at_31) rfl 33 rfl ?_
  refine own_bipush X0 hx (hb hby at_33) (63 : Int32) rfl 35 rfl ?_
  refine own_iand X0 hx (hb hby at_35) 36 rfl ?_
  refine own_lushr X0 hx (hb hby at_36) 37 rfl ?_
  generalize hy128 : (((v4 &&& (9223372036854775807 : Int64))).toUInt64 >>> ((v5 &&& (63 : Int32)) &&& 0x3f).toInt64.toUInt64).toInt64 = y128
  refine own_lstore X0 hx (hb hby at_37) #[.val (.long v0), .second, .val (.int v1), .val (.long v2), .second, .val (.int v3), .val (.long v4), .second, .val (.int v5), .val (.long y126), .second, .val (.long y127), .second, .val (.long y128), .second, .unset, .unset, .unset, .unset, .unset, .unset, .unset, .unset] rfl 39 rfl ?_
  obtain ⟨x0, hx0, he0⟩ := own_va v0 (v1 &&& (63 : Int32))
  obtain rfl : y126 = Int64.ofNat x0 := hy126.symm.trans he0
  have hl0 := own_vl_le 8 x0
  obtain ⟨x1, hx1, he1⟩ := own_va v2 (v3 &&& (63 : Int32))
  obtain rfl : y127 = Int64.ofNat x1 := hy127.symm.trans he1
  have hl1 := own_vl_le 8 x1
  obtain ⟨x2, hx2, he2⟩ := own_va v4 (v5 &&& (63 : Int32))
  obtain rfl : y128 = Int64.ofNat x2 := hy128.symm.trans he2
  have hl2 := own_vl_le 8 x2
  refine own_newO X0 hx hZ hown (own_w hw 1 rfl) (own_w hw 2 rfl) (own_w hw 3 rfl) e0 (hb hby at_39) (by decide) (by decide) 42 rfl (fun T129 h129 a129 g129 X129 e129 E129 A129 D129 => ?_)
  have ge130 : n0 ≤ a129 := by rw [g129]; exact Z0
  have Z131 : n0 ≤ h129.size := Nat.le_trans Z0 E129.1
  have F132 : Fld Z h129 a129 "com/example/loon/loon/index/ByteSink" "bytes" "[B" .null := D129 (Or.inl (own_w hw 12 rfl)) (ty := (.array .byte)) (by decide)
  have F133 : Fld Z h129 a129 "com/example/loon/loon/index/ByteSink" "size" "I" (.int (0 : Int32)) := D129 (Or.inl (own_w hw 19 rfl)) (ty := .int) (by decide)
  refine own_dup X129 hx (hb hby at_42) rfl 43 rfl ?_
  refine own_callI X129 hx hZ rfl hown (own_w hw 4 rfl) (own_w hw 5 rfl) (own_w hw 3 rfl) (own_w hw 6 rfl) (by decide) e129 (rm1 l Z a0 hw [] a129 h129 n0 Z131 ge130 A129 F132 F133) (by rw [hml]; rfl) pd_3 (argsL := []) rfl (rest := [(.ref a129)]) rfl (hb hby at_43) 1 (Nat.le_of_eq rfl) (by decide) (by decide) (by decide) (by decide) 46 rfl (fun T134 L134 v134 X134 hQ134 => ?_)
  obtain ⟨rfl, N134, Z134, B134⟩ := hQ134
  have N135 := Fr.app N0 N134
  obtain ⟨b134, E134, Fb134, Fs134, V134, ne134, gb134⟩ := id B134
  show own_Go p e below G (T134.setTop (mkF m 46 #[.val (.long v0), .second, .val (.int v1), .val (.long v2), .second, .val (.int v3), .val (.long v4), .second, .val (.int v5), .val (.long (Int64.ofNat x0)), .second, .val (.long (Int64.ofNat x1)), .second, .val (.long (Int64.ofNat x2)), .second, .unset, .unset, .unset, .unset, .unset, .unset, .unset, .unset] [(.ref a129)]))
  have hgr8 : own_gr 8 0 = 16 := rfl
  refine own_astore X134 hx (hb hby at_46) rfl #[.val (.long v0), .second, .val (.int v1), .val (.long v2), .second, .val (.int v3), .val (.long v4), .second, .val (.int v5), .val (.long (Int64.ofNat x0)), .second, .val (.long (Int64.ofNat x1)), .second, .val (.long (Int64.ofNat x2)), .second, .val (.ref a129), .unset, .unset, .unset, .unset, .unset, .unset, .unset] rfl 48 rfl ?_
  refine own_aload X134 hx (hb hby at_48) rfl rfl 50 rfl ?_
  refine own_callV X134 hx hZ hown (own_w hw 13 rfl) (own_w hw 14 rfl) (own_w hw 16 rfl) (notFace_of_selects (args := #[]) (mvT hZ (own_w hw 16 rfl))) (own_w hw 15 rfl) (own_w hw 3 rfl) (own_w hw 17 rfl) (by decide) (rfl : T134.heap = T134.heap) E134 (rm2 l Z a0 hw [] a129 0 T134.heap n0 Fs134) (by rw [hml]; rfl) pd_4 (argsL := []) rfl (rest := []) rfl (hb hby at_50) 0 (Nat.le_of_eq rfl) (by decide) (by decide) (by decide) (by decide) 53 rfl (fun T136 L136 v136 X136 hQ136 => ?_)
  obtain ⟨rfl, N136, e136⟩ := hQ136
  have N137 := Fr.app N135 N136
  show own_Go p e below G (T136.setTop (mkF m 53 #[.val (.long v0), .second, .val (.int v1), .val (.long v2), .second, .val (.int v3), .val (.long v4), .second, .val (.int v5), .val (.long (Int64.ofNat x0)), .second, .val (.long (Int64.ofNat x1)), .second, .val (.long (Int64.ofNat x2)), .second, .val (.ref a129), .unset, .unset, .unset, .unset, .unset, .unset, .unset] [(.int (Int32.ofNat 0))]))
  refine own_istore X136 hx (hb hby at_53) #[.val (.long v0), .second, .val (.int v1), .val (.long v2), .second, .val (.int v3), .val (.long v4), .second, .val (.int v5), .val (.long (Int64.ofNat x0)), .second, .val (.long (Int64.ofNat x1)), .second, .val (.long (Int64.ofNat x2)), .second, .val (.ref a129), .val (.int (Int32.ofNat 0)), .unset, .unset, .unset, .unset, .unset, .unset] rfl 55 rfl ?_
  refine own_aload X136 hx (hb hby at_55) rfl rfl 57 rfl ?_
  refine own_lload X136 hx (hb hby at_57) rfl 59 rfl ?_
  refine own_callV X136 hx hZ hown (own_w hw 20 rfl) (own_w hw 21 rfl) (own_w hw 23 rfl) (notFace_of_selects (args := #[]) (mvT hZ (own_w hw 23 rfl))) (own_w hw 22 rfl) (own_w hw 3 rfl) (own_w hw 24 rfl) (by decide) e136 E134 (rm7 l Z a0 hw [] a129 8 0 x0 T134.heap n0 Z134 ge130 B134 (by omega) (by omega) (by omega) (by omega) hx0) (by rw [hml]; rfl) pd_5 (argsL := [(.long (Int64.ofNat x0))]) rfl (rest := []) rfl (hb hby at_59) 0 (Nat.le_of_eq rfl) (by decide) (by decide) (by decide) (by decide) 62 rfl (fun T138 L138 v138 X138 hQ138 => ?_)
  obtain ⟨rfl, N138, Z138, B138⟩ := hQ138
  have N139 := Fr.app N137 N138
  obtain ⟨b138, E138, Fb138, Fs138, V138, ne138, gb138⟩ := id B138
  show own_Go p e below G (T138.setTop (mkF m 62 #[.val (.long v0), .second, .val (.int v1), .val (.long v2), .second, .val (.int v3), .val (.long v4), .second, .val (.int v5), .val (.long (Int64.ofNat x0)), .second, .val (.long (Int64.ofNat x1)), .second, .val (.long (Int64.ofNat x2)), .second, .val (.ref a129), .val (.int (Int32.ofNat 0)), .unset, .unset, .unset, .unset, .unset, .unset] []))
  refine own_aload X138 hx (hb hby at_62) rfl rfl 64 rfl ?_
  refine own_callV X138 hx hZ hown (own_w hw 13 rfl) (own_w hw 14 rfl) (own_w hw 16 rfl) (notFace_of_selects (args := #[]) (mvT hZ (own_w hw 16 rfl))) (own_w hw 15 rfl) (own_w hw 3 rfl) (own_w hw 17 rfl) (by decide) (rfl : T138.heap = T138.heap) E138 (rm2 l Z a0 hw [] a129 (0 + own_vl 8 x0) T138.heap n0 Fs138) (by rw [hml]; rfl) pd_4 (argsL := []) rfl (rest := []) rfl (hb hby at_64) 0 (Nat.le_of_eq rfl) (by decide) (by decide) (by decide) (by decide) 67 rfl (fun T140 L140 v140 X140 hQ140 => ?_)
  obtain ⟨rfl, N140, e140⟩ := hQ140
  have N141 := Fr.app N139 N140
  show own_Go p e below G (T140.setTop (mkF m 67 #[.val (.long v0), .second, .val (.int v1), .val (.long v2), .second, .val (.int v3), .val (.long v4), .second, .val (.int v5), .val (.long (Int64.ofNat x0)), .second, .val (.long (Int64.ofNat x1)), .second, .val (.long (Int64.ofNat x2)), .second, .val (.ref a129), .val (.int (Int32.ofNat 0)), .unset, .unset, .unset, .unset, .unset, .unset] [(.int (Int32.ofNat (0 + own_vl 8 x0)))]))
  refine own_istore X140 hx (hb hby at_67) #[.val (.long v0), .second, .val (.int v1), .val (.long v2), .second, .val (.int v3), .val (.long v4), .second, .val (.int v5), .val (.long (Int64.ofNat x0)), .second, .val (.long (Int64.ofNat x1)), .second, .val (.long (Int64.ofNat x2)), .second, .val (.ref a129), .val (.int (Int32.ofNat 0)), .val (.int (Int32.ofNat (0 + own_vl 8 x0))), .unset, .unset, .unset, .unset, .unset] rfl 69 rfl ?_
  refine own_aload X140 hx (hb hby at_69) rfl rfl 71 rfl ?_
  refine own_lload X140 hx (hb hby at_71) rfl 73 rfl ?_
  refine own_callV X140 hx hZ hown (own_w hw 20 rfl) (own_w hw 21 rfl) (own_w hw 23 rfl) (notFace_of_selects (args := #[]) (mvT hZ (own_w hw 23 rfl))) (own_w hw 22 rfl) (own_w hw 3 rfl) (own_w hw 24 rfl) (by decide) e140 E138 (rm7 l Z a0 hw [] a129 (own_gr 8 0) (0 + own_vl 8 x0) x1 T138.heap n0 Z138 ge130 B138 (by rw [hgr8]; omega) (by rw [hgr8]; omega) (by rw [hgr8]; omega) (by rw [hgr8]; omega) hx1) (by rw [hml]; rfl) pd_5 (argsL := [(.long (Int64.ofNat x1))]) rfl (rest := []) rfl (hb hby at_73) 0 (Nat.le_of_eq rfl) (by decide) (by decide) (by decide) (by decide) 76 rfl (fun T142 L142 v142 X142 hQ142 => ?_)
  obtain ⟨rfl, N142, Z142, B142⟩ := hQ142
  have N143 := Fr.app N141 N142
  obtain ⟨b142, E142, Fb142, Fs142, V142, ne142, gb142⟩ := id B142
  show own_Go p e below G (T142.setTop (mkF m 76 #[.val (.long v0), .second, .val (.int v1), .val (.long v2), .second, .val (.int v3), .val (.long v4), .second, .val (.int v5), .val (.long (Int64.ofNat x0)), .second, .val (.long (Int64.ofNat x1)), .second, .val (.long (Int64.ofNat x2)), .second, .val (.ref a129), .val (.int (Int32.ofNat 0)), .val (.int (Int32.ofNat (0 + own_vl 8 x0))), .unset, .unset, .unset, .unset, .unset] []))
  refine own_aload X142 hx (hb hby at_76) rfl rfl 78 rfl ?_
  refine own_callV X142 hx hZ hown (own_w hw 13 rfl) (own_w hw 14 rfl) (own_w hw 16 rfl) (notFace_of_selects (args := #[]) (mvT hZ (own_w hw 16 rfl))) (own_w hw 15 rfl) (own_w hw 3 rfl) (own_w hw 17 rfl) (by decide) (rfl : T142.heap = T142.heap) E142 (rm2 l Z a0 hw [] a129 ((0 + own_vl 8 x0) + own_vl 8 x1) T142.heap n0 Fs142) (by rw [hml]; rfl) pd_4 (argsL := []) rfl (rest := []) rfl (hb hby at_78) 0 (Nat.le_of_eq rfl) (by decide) (by decide) (by decide) (by decide) 81 rfl (fun T144 L144 v144 X144 hQ144 => ?_)
  obtain ⟨rfl, N144, e144⟩ := hQ144
  have N145 := Fr.app N143 N144
  show own_Go p e below G (T144.setTop (mkF m 81 #[.val (.long v0), .second, .val (.int v1), .val (.long v2), .second, .val (.int v3), .val (.long v4), .second, .val (.int v5), .val (.long (Int64.ofNat x0)), .second, .val (.long (Int64.ofNat x1)), .second, .val (.long (Int64.ofNat x2)), .second, .val (.ref a129), .val (.int (Int32.ofNat 0)), .val (.int (Int32.ofNat (0 + own_vl 8 x0))), .unset, .unset, .unset, .unset, .unset] [(.int (Int32.ofNat ((0 + own_vl 8 x0) + own_vl 8 x1)))]))
  refine own_istore X144 hx (hb hby at_81) #[.val (.long v0), .second, .val (.int v1), .val (.long v2), .second, .val (.int v3), .val (.long v4), .second, .val (.int v5), .val (.long (Int64.ofNat x0)), .second, .val (.long (Int64.ofNat x1)), .second, .val (.long (Int64.ofNat x2)), .second, .val (.ref a129), .val (.int (Int32.ofNat 0)), .val (.int (Int32.ofNat (0 + own_vl 8 x0))), .val (.int (Int32.ofNat ((0 + own_vl 8 x0) + own_vl 8 x1))), .unset, .unset, .unset, .unset] rfl 83 rfl ?_
  refine own_aload X144 hx (hb hby at_83) rfl rfl 85 rfl ?_
  refine own_lload X144 hx (hb hby at_85) rfl 87 rfl ?_
  refine own_callV X144 hx hZ hown (own_w hw 20 rfl) (own_w hw 21 rfl) (own_w hw 23 rfl) (notFace_of_selects (args := #[]) (mvT hZ (own_w hw 23 rfl))) (own_w hw 22 rfl) (own_w hw 3 rfl) (own_w hw 24 rfl) (by decide) e144 E142 (rm7 l Z a0 hw [] a129 (own_gr (own_gr 8 0) (0 + own_vl 8 x0)) ((0 + own_vl 8 x0) + own_vl 8 x1) x2 T142.heap n0 Z142 ge130 B142 (by have := own_gr_ge (own_gr 8 0) (0 + own_vl 8 x0); omega) (by have := own_gr_ge (own_gr 8 0) (0 + own_vl 8 x0); omega) (own_gr_le (by rw [hgr8]; omega) (by rw [hgr8]; omega)) (by rw [hgr8]; unfold own_gr; split <;> omega) hx2) (by rw [hml]; rfl) pd_5 (argsL := [(.long (Int64.ofNat x2))]) rfl (rest := []) rfl (hb hby at_87) 0 (Nat.le_of_eq rfl) (by decide) (by decide) (by decide) (by decide) 90 rfl (fun T146 L146 v146 X146 hQ146 => ?_)
  obtain ⟨rfl, N146, Z146, B146⟩ := hQ146
  have N147 := Fr.app N145 N146
  obtain ⟨b146, E146, Fb146, Fs146, V146, ne146, gb146⟩ := id B146
  show own_Go p e below G (T146.setTop (mkF m 90 #[.val (.long v0), .second, .val (.int v1), .val (.long v2), .second, .val (.int v3), .val (.long v4), .second, .val (.int v5), .val (.long (Int64.ofNat x0)), .second, .val (.long (Int64.ofNat x1)), .second, .val (.long (Int64.ofNat x2)), .second, .val (.ref a129), .val (.int (Int32.ofNat 0)), .val (.int (Int32.ofNat (0 + own_vl 8 x0))), .val (.int (Int32.ofNat ((0 + own_vl 8 x0) + own_vl 8 x1))), .unset, .unset, .unset, .unset] []))
  refine own_aload X146 hx (hb hby at_90) rfl rfl 92 rfl ?_
  refine own_callV X146 hx hZ hown (own_w hw 13 rfl) (own_w hw 14 rfl) (own_w hw 16 rfl) (notFace_of_selects (args := #[]) (mvT hZ (own_w hw 16 rfl))) (own_w hw 15 rfl) (own_w hw 3 rfl) (own_w hw 17 rfl) (by decide) (rfl : T146.heap = T146.heap) E146 (rm2 l Z a0 hw [] a129 (((0 + own_vl 8 x0) + own_vl 8 x1) + own_vl 8 x2) T146.heap n0 Fs146) (by rw [hml]; rfl) pd_4 (argsL := []) rfl (rest := []) rfl (hb hby at_92) 0 (Nat.le_of_eq rfl) (by decide) (by decide) (by decide) (by decide) 95 rfl (fun T148 L148 v148 X148 hQ148 => ?_)
  obtain ⟨rfl, N148, e148⟩ := hQ148
  have N149 := Fr.app N147 N148
  show own_Go p e below G (T148.setTop (mkF m 95 #[.val (.long v0), .second, .val (.int v1), .val (.long v2), .second, .val (.int v3), .val (.long v4), .second, .val (.int v5), .val (.long (Int64.ofNat x0)), .second, .val (.long (Int64.ofNat x1)), .second, .val (.long (Int64.ofNat x2)), .second, .val (.ref a129), .val (.int (Int32.ofNat 0)), .val (.int (Int32.ofNat (0 + own_vl 8 x0))), .val (.int (Int32.ofNat ((0 + own_vl 8 x0) + own_vl 8 x1))), .unset, .unset, .unset, .unset] [(.int (Int32.ofNat (((0 + own_vl 8 x0) + own_vl 8 x1) + own_vl 8 x2)))]))
  refine own_istore X148 hx (hb hby at_95) #[.val (.long v0), .second, .val (.int v1), .val (.long v2), .second, .val (.int v3), .val (.long v4), .second, .val (.int v5), .val (.long (Int64.ofNat x0)), .second, .val (.long (Int64.ofNat x1)), .second, .val (.long (Int64.ofNat x2)), .second, .val (.ref a129), .val (.int (Int32.ofNat 0)), .val (.int (Int32.ofNat (0 + own_vl 8 x0))), .val (.int (Int32.ofNat ((0 + own_vl 8 x0) + own_vl 8 x1))), .val (.int (Int32.ofNat (((0 + own_vl 8 x0) + own_vl 8 x1) + own_vl 8 x2))), .unset, .unset, .unset] rfl 97 rfl ?_
  refine own_lload X148 hx (hb hby at_97) rfl 99 rfl ?_
  refine own_callS X148 hx hZ hown (own_w hw 45 rfl) (own_w hw 46 rfl) (own_w hw 47 rfl) (own_w hw 48 rfl) (by decide) e148 (rm8 l Z a0 hw [] x0 T146.heap n0 hx0) (by rw [hml]; rfl) pd_6 (argsL := [(.long (Int64.ofNat x0))]) rfl (rest := []) rfl (hb hby at_99) 0 (Nat.le_of_eq rfl) (by decide) (by decide) (by decide) (by decide) 102 rfl (fun T150 L150 v150 X150 hQ150 => ?_)
  obtain ⟨rfl, N150, e150⟩ := hQ150
  have N151 := Fr.app N149 N150
  show own_Go p e below G (T150.setTop (mkF m 102 #[.val (.long v0), .second, .val (.int v1), .val (.long v2), .second, .val (.int v3), .val (.long v4), .second, .val (.int v5), .val (.long (Int64.ofNat x0)), .second, .val (.long (Int64.ofNat x1)), .second, .val (.long (Int64.ofNat x2)), .second, .val (.ref a129), .val (.int (Int32.ofNat 0)), .val (.int (Int32.ofNat (0 + own_vl 8 x0))), .val (.int (Int32.ofNat ((0 + own_vl 8 x0) + own_vl 8 x1))), .val (.int (Int32.ofNat (((0 + own_vl 8 x0) + own_vl 8 x1) + own_vl 8 x2))), .unset, .unset, .unset] [(.int (Int32.ofNat (own_vl 8 x0)))]))
  refine own_istore X150 hx (hb hby at_102) #[.val (.long v0), .second, .val (.int v1), .val (.long v2), .second, .val (.int v3), .val (.long v4), .second, .val (.int v5), .val (.long (Int64.ofNat x0)), .second, .val (.long (Int64.ofNat x1)), .second, .val (.long (Int64.ofNat x2)), .second, .val (.ref a129), .val (.int (Int32.ofNat 0)), .val (.int (Int32.ofNat (0 + own_vl 8 x0))), .val (.int (Int32.ofNat ((0 + own_vl 8 x0) + own_vl 8 x1))), .val (.int (Int32.ofNat (((0 + own_vl 8 x0) + own_vl 8 x1) + own_vl 8 x2))), .val (.int (Int32.ofNat (own_vl 8 x0))), .unset, .unset] rfl 104 rfl ?_
  refine own_lload X150 hx (hb hby at_104) rfl 106 rfl ?_
  refine own_callS X150 hx hZ hown (own_w hw 45 rfl) (own_w hw 46 rfl) (own_w hw 47 rfl) (own_w hw 48 rfl) (by decide) e150 (rm8 l Z a0 hw [] x1 T146.heap n0 hx1) (by rw [hml]; rfl) pd_6 (argsL := [(.long (Int64.ofNat x1))]) rfl (rest := []) rfl (hb hby at_106) 0 (Nat.le_of_eq rfl) (by decide) (by decide) (by decide) (by decide) 109 rfl (fun T152 L152 v152 X152 hQ152 => ?_)
  obtain ⟨rfl, N152, e152⟩ := hQ152
  have N153 := Fr.app N151 N152
  show own_Go p e below G (T152.setTop (mkF m 109 #[.val (.long v0), .second, .val (.int v1), .val (.long v2), .second, .val (.int v3), .val (.long v4), .second, .val (.int v5), .val (.long (Int64.ofNat x0)), .second, .val (.long (Int64.ofNat x1)), .second, .val (.long (Int64.ofNat x2)), .second, .val (.ref a129), .val (.int (Int32.ofNat 0)), .val (.int (Int32.ofNat (0 + own_vl 8 x0))), .val (.int (Int32.ofNat ((0 + own_vl 8 x0) + own_vl 8 x1))), .val (.int (Int32.ofNat (((0 + own_vl 8 x0) + own_vl 8 x1) + own_vl 8 x2))), .val (.int (Int32.ofNat (own_vl 8 x0))), .unset, .unset] [(.int (Int32.ofNat (own_vl 8 x1)))]))
  refine own_istore X152 hx (hb hby at_109) #[.val (.long v0), .second, .val (.int v1), .val (.long v2), .second, .val (.int v3), .val (.long v4), .second, .val (.int v5), .val (.long (Int64.ofNat x0)), .second, .val (.long (Int64.ofNat x1)), .second, .val (.long (Int64.ofNat x2)), .second, .val (.ref a129), .val (.int (Int32.ofNat 0)), .val (.int (Int32.ofNat (0 + own_vl 8 x0))), .val (.int (Int32.ofNat ((0 + own_vl 8 x0) + own_vl 8 x1))), .val (.int (Int32.ofNat (((0 + own_vl 8 x0) + own_vl 8 x1) + own_vl 8 x2))), .val (.int (Int32.ofNat (own_vl 8 x0))), .val (.int (Int32.ofNat (own_vl 8 x1))), .unset] rfl 111 rfl ?_
  refine own_lload X152 hx (hb hby at_111) rfl 113 rfl ?_
  refine own_callS X152 hx hZ hown (own_w hw 45 rfl) (own_w hw 46 rfl) (own_w hw 47 rfl) (own_w hw 48 rfl) (by decide) e152 (rm8 l Z a0 hw [] x2 T146.heap n0 hx2) (by rw [hml]; rfl) pd_6 (argsL := [(.long (Int64.ofNat x2))]) rfl (rest := []) rfl (hb hby at_113) 0 (Nat.le_of_eq rfl) (by decide) (by decide) (by decide) (by decide) 116 rfl (fun T154 L154 v154 X154 hQ154 => ?_)
  obtain ⟨rfl, N154, e154⟩ := hQ154
  have N155 := Fr.app N153 N154
  show own_Go p e below G (T154.setTop (mkF m 116 #[.val (.long v0), .second, .val (.int v1), .val (.long v2), .second, .val (.int v3), .val (.long v4), .second, .val (.int v5), .val (.long (Int64.ofNat x0)), .second, .val (.long (Int64.ofNat x1)), .second, .val (.long (Int64.ofNat x2)), .second, .val (.ref a129), .val (.int (Int32.ofNat 0)), .val (.int (Int32.ofNat (0 + own_vl 8 x0))), .val (.int (Int32.ofNat ((0 + own_vl 8 x0) + own_vl 8 x1))), .val (.int (Int32.ofNat (((0 + own_vl 8 x0) + own_vl 8 x1) + own_vl 8 x2))), .val (.int (Int32.ofNat (own_vl 8 x0))), .val (.int (Int32.ofNat (own_vl 8 x1))), .unset] [(.int (Int32.ofNat (own_vl 8 x2)))]))
  refine own_istore X154 hx (hb hby at_116) #[.val (.long v0), .second, .val (.int v1), .val (.long v2), .second, .val (.int v3), .val (.long v4), .second, .val (.int v5), .val (.long (Int64.ofNat x0)), .second, .val (.long (Int64.ofNat x1)), .second, .val (.long (Int64.ofNat x2)), .second, .val (.ref a129), .val (.int (Int32.ofNat 0)), .val (.int (Int32.ofNat (0 + own_vl 8 x0))), .val (.int (Int32.ofNat ((0 + own_vl 8 x0) + own_vl 8 x1))), .val (.int (Int32.ofNat (((0 + own_vl 8 x0) + own_vl 8 x1) + own_vl 8 x2))), .val (.int (Int32.ofNat (own_vl 8 x0))), .val (.int (Int32.ofNat (own_vl 8 x1))), .val (.int (Int32.ofNat (own_vl 8 x2)))] rfl 118 rfl ?_
  refine own_iload X154 hx (hb hby at_118) rfl 120 rfl ?_
  refine own_ifN X154 hx (hb hby at_120) ((if0 _ _).trans (teq rfl).2) 123 rfl ?_
  refine own_iload X154 hx (hb hby at_123) rfl 125 rfl ?_
  refine own_iload X154 hx (hb hby at_125) rfl 127 rfl ?_
  refine own_icmpN X154 hx (hb hby at_127) (teq (by rw [Nat.zero_add])).2 130 rfl ?_
  refine own_iload X154 hx (hb hby at_130) rfl 132 rfl ?_
  refine own_iload X154 hx (hb hby at_132) rfl 134 rfl ?_
  refine own_iload X154 hx (hb hby at_134) rfl 136 rfl ?_
  refine own_iadd X154 hx (hb hby at_136) 137 rfl ?_
  refine own_icmpN X154 hx (hb hby at_137) (teq (by rw [Nat.zero_add, Int32.ofNat_add])).2 140 rfl ?_
  refine own_iload X154 hx (hb hby at_140) rfl 142 rfl ?_
  refine own_iload X154 hx (hb hby at_142) rfl 144 rfl ?_
  refine own_iload X154 hx (hb hby at_144) rfl 146 rfl ?_
  refine own_iadd X154 hx (hb hby at_146) 147 rfl ?_
  refine own_iload X154 hx (hb hby at_147) rfl 149 rfl ?_
  refine own_iadd X154 hx (hb hby at_149) 150 rfl ?_
  refine own_icmpN X154 hx (hb hby at_150) (teq (by rw [Nat.zero_add, Int32.ofNat_add, Int32.ofNat_add])).2 153 rfl ?_
  refine own_iconst X154 hx (hb hby at_153) (1 : Int32) rfl 154 rfl ?_
  refine own_goto X154 hx (hb hby at_154) 158 ⟨by decide, by decide⟩ ?_
  refine own_nreturn X154 hx Bd.notSynchronized hG Bd.returns (by simp) (hb hby at_158) (by decide) (by decide) ?_
  rw [e154]
  exact ⟨rfl, N155⟩
set_option maxRecDepth 65536 in
set_option maxHeartbeats 40000000 in
theorem comes_1 {Post : Tables → Env → Array Value → State → Outcome → State → Prop} (hpost : ∀ tb e args s v u, (limb_1_1.after args s (.returned v) u = true ∧ limb_1_2.after args s (.returned v) u = true ∧ True) → FrameEnd s (.returned v) u (Jvm.fieldLocs frame_1_writes args s ++ Jvm.arrayLocs frame_1_arrays args s ++ Jvm.staticLocs frame_1_statics s) 16 192 → Post tb e args s (.returned v) u) :
    ArmFor flags0 classFile x code maxLocals ret World_1 tables_1 room_1 Calls_1 rest_1 Pre_1 Post := by
  intro l hfl _ _ p e ha hc hk s m args below hf hA hF happ hP
  obtain ⟨hcalls, hrest, hpre⟩ := hP
  obtain ⟨-, -, -, hnamed, -, -, -, hat⟩ := (Spec.applies_iff hf).mp happ
  obtain ⟨hg, hn⟩ := and_e (Cond.before_iff.mp (show (Jvm.Cond.and given_1 narrow_1).before args s = true from hpre))
  obtain ⟨hcount, k0⟩ := and_e hg
  obtain ⟨q0, k1⟩ := and_e k0
  obtain ⟨q1, k2⟩ := and_e k1
  obtain ⟨q2, k3⟩ := and_e k2
  obtain ⟨q3, k4⟩ := and_e k3
  obtain ⟨q4, k5⟩ := and_e k4
  have q5 := k5
  obtain ⟨w0, w1, w2, w3, w4, w5, rfl⟩ : ∃ w0 w1 w2 w3 w4 w5 : Value, args = #[w0, w1, w2, w3, w4, w5] := by
    have hs : args.size = 6 := by simpa [Cond.value, given_1] using hcount
    obtain ⟨L⟩ := args
    match L, hs with
    | [w0, w1, w2, w3, w4, w5], _ => exact ⟨w0, w1, w2, w3, w4, w5, rfl⟩
  have hw := fun d (hd : d ∈ tables_1) => atoms_spec (ws := Jvm.Cond.code x code maxLocals ret :: tables_1) hat d (List.mem_cons_of_mem _ hd)
  have hfit : Fit s := fun {y c} hc i hi => by
    obtain ⟨ha, rfl⟩ := Array.getElem?_eq_some_iff.mp hc
    have q := List.all_eq_true.mp ((Array.all_eq_true_iff_forall_mem.mp hF) _ (Array.getElem_mem ha)) i (List.mem_range.mpr hi)
    simpa [Array.getElem?_eq_getElem hi] using q
  obtain ⟨i0, r0⟩ := own_isl q0
  obtain rfl : w0 = (.long i0) := Option.some.inj r0
  obtain ⟨i1, r1⟩ := is_v q1
  obtain rfl : w1 = (.int i1) := Option.some.inj r1
  obtain ⟨i2, r2⟩ := own_isl q2
  obtain rfl : w2 = (.long i2) := Option.some.inj r2
  obtain ⟨i3, r3⟩ := is_v q3
  obtain rfl : w3 = (.int i3) := Option.some.inj r3
  obtain ⟨i4, r4⟩ := own_isl q4
  obtain rfl : w4 = (.long i4) := Option.some.inj r4
  obtain ⟨i5, r5⟩ := is_v q5
  obtain rfl : w5 = (.int i5) := Option.some.inj r5
  obtain ⟨n, o, h1, h2, h3, _, L, rfl, ⟨rfl, N⟩, hq⟩ := rm0 l s _ hw tables_1 i0 i1 i2 i3 i4 i5 s.heap s.heap.size (Nat.le_refl _) p e ha hc hk s m _ below hf ((Spec.applies_iff_loose hf).mp happ).1 ⟨rfl, State.Warmed39.refl s, rfl⟩ trivial
  refine ⟨n, _, h1, h2, h3, hpost _ _ _ _ _ _ ⟨Cond.after_iff.mpr rfl, Cond.after_iff.mpr (eq_i res_at (Term.int_eval (1)) rfl), trivial⟩ ⟨hq.1, hq.2.1, (hq.2.2.sift fun y hy => Or.inr (N y hy)).mono (by decide) (by decide)⟩⟩
theorem main_1_1 : Claimed_1_1 := comes_1 fun _ _ _ _ _ _ h hF => ⟨h.1, hF⟩
theorem main_1_2 : Claimed_1_2 := comes_1 fun _ _ _ _ _ _ h hF => ⟨h.2.1, hF⟩
end Jvm.Pilot.@@N@@
namespace Jvm.Pilot.@@N@@
open Jvm Jvm.ClassFile Sem Op Lib Jvm.Free Jvm.Stand Jvm.Pilot.@@N@@.Jvm.D
/-! MADE BY PROGRAM (witnessworld.py) out of the Statement's table words and the real class files: 12 classes; the members and pool entries that the words name. The judged class is class 1, her method 2. -/
namespace start1
open Jvm.ClassFile
def u (s : String) : CpInfo := .utf8 (stringToUtf16 s)
/-- a pool by its gaps: so many unusable entries, then the entry; so many at the end -/
def gap : Nat → List CpInfo → List CpInfo
  | 0, r => r
  | n + 1, r => .unusable :: gap n r
def poolList (es : List (Nat × CpInfo)) (last : Nat) : List CpInfo := es.foldr (fun e r => gap e.1 (e.2 :: r)) (gap last [])
def pool (es : List (Nat × CpInfo)) (last : Nat) : Array CpInfo := ⟨poolList es last⟩
def fileOf (pool : Array CpInfo) (this : Nat) (attrs : Array Attribute := #[]) (ms : Array MethodInfo := #[]) (fl : Nat := 33) (sup : Nat := 0) (ifs : Array Nat := #[]) (fds : Array FieldInfo := #[]) : ClassFile where
  minorVersion := 0
  majorVersion := 65
  constantPool := pool
  accessFlags := fl
  thisClass := this
  superClass := sup
  interfaces := ifs
  fields := fds
  methods := ms
  attributes := attrs
def plain (name : String) (sup : Option ClassId) : Class where
  name := name
  kind := .ordinary
  loader := none
  accessFlags := 33
  super := sup
  interfaces := #[]
  cf := none
  fields := #[]
  methods := #[]
  instanceTypes := #[]
  staticTypes := #[]
  resolved := #[]
  callSites := []
  init := .initialized
  statics := none
  mirror := none

def pool0 : Array CpInfo := pool [(5, u "<init>"), (0, u "()V"), (1, .class_ 10), (1, u "java/lang/Object")] 113

def k0c0 : Code := { maxStack := 0, maxLocals := 1, code := object_method_1_code, exceptionTable := #[], attributes := #[] }
def k0m0 : Method := { name := "<init>", desc := "()V", sig := { parameters := [], returnType := none }, accessFlags := 1, code := some k0c0 }
/-- java/lang/Object -/
def k0 : Class := { plain "java/lang/Object" none with
  accessFlags := 33
  interfaces := #[]
  cf := some (fileOf pool0 8 #[] #[{ accessFlags := 1, nameIndex := 5, descriptorIndex := 6, attributes := #[] }] 33 0 #[] #[])
  fields := #[]
  methods := #[k0m0]
  instanceTypes := #[]
  staticTypes := #[]
  resolved := Array.replicate 124 none
  statics := none }

def pool1 : Array CpInfo := pool [(2, .class_ 4), (0, .nameAndType 5 6), (0, u "java/lang/Object"), (0, u "<init>"), (0, u "()V"), (0, .long 128), (1, .long 16384), (1, .long 2097152), (1, .long 268435456), (1, .long 34359738368), (1, .long 4398046511104), (1, .long 562949953421312), (1, .long 72057594037927936), (3, .long 9223372036854775807), (1, .class_ 28), (0, u "com/example/loon/loon/index/ByteSink"), (0, .methodref 27 3), (0, .methodref 27 31), (0, .nameAndType 32 33), (0, u "size"), (0, u "()I"), (0, .methodref 27 35), (0, .nameAndType 36 37), (0, u "putVarLong"), (0, u "(J)V"), (0, .methodref 39 40), (0, .class_ 41), (0, .nameAndType 42 43), (0, u "com/example/loon/loon/index/ByteSinkPutVarLongPinLaw"), (0, u "len"), (0, u "(J)I"), (3, u "law"), (0, u "(JIJIJI)Z")] 2

def k1m0 : Method := { name := "<init>", desc := "()V", sig := { parameters := [], returnType := none }, accessFlags := 1, code := none }
def k1c1 : Code := { maxStack := 4, maxLocals := 2, code := method_2_code, exceptionTable := #[], attributes := #[] }
def k1m1 : Method := { name := "len", desc := "(J)I", sig := { parameters := [.long], returnType := some .int }, accessFlags := 10, code := some k1c1 }
def k1c2 : Code := { maxStack := 4, maxLocals := 23, code := code, exceptionTable := #[], attributes := #[] }
def k1m2 : Method := { name := "law", desc := "(JIJIJI)Z", sig := { parameters := [.long, .int, .long, .int, .long, .int], returnType := some .boolean }, accessFlags := 9, code := some k1c2 }
/-- com/example/loon/loon/index/ByteSinkPutVarLongPinLaw -/
def k1 : Class := { plain "com/example/loon/loon/index/ByteSinkPutVarLongPinLaw" (some 0) with
  accessFlags := 49
  interfaces := #[]
  cf := some (fileOf pool1 39 #[] #[{ accessFlags := 1, nameIndex := 5, descriptorIndex := 6, attributes := #[] }, { accessFlags := 10, nameIndex := 42, descriptorIndex := 43, attributes := #[] }, { accessFlags := 9, nameIndex := 47, descriptorIndex := 48, attributes := #[] }] 49 2 #[] #[])
  fields := #[]
  methods := #[k1m0, k1m1, k1m2]
  instanceTypes := #[]
  staticTypes := #[]
  resolved := Array.replicate 51 none
  statics := none }

def pool2 : Array CpInfo := pool [(1, .methodref 2 3), (0, .class_ 4), (0, .nameAndType 5 6), (0, u "java/lang/Object"), (0, u "<init>"), (0, u "()V"), (0, .class_ 8), (0, u "com/example/loon/loon/index/ByteSink"), (0, .fieldref 7 10), (0, .nameAndType 11 12), (0, u "bytes"), (0, u "[B"), (11, .methodref 7 25), (0, .nameAndType 26 27), (0, u "ensureRoom"), (0, u "(I)V"), (0, .long 128), (1, .fieldref 7 31), (0, .nameAndType 32 33), (0, u "size"), (0, u "I"), (14, u "putVarLong"), (0, u "(J)V"), (17, .methodref 68 69), (0, .class_ 70), (0, .nameAndType 71 72), (0, u "java/lang/Math"), (0, u "max"), (0, u "(II)I"), (0, .methodref 74 75), (0, .class_ 76), (0, .nameAndType 77 78), (0, u "java/util/Arrays"), (0, u "copyOf"), (0, u "([BI)[B"), (0, u "FIRST_CAPACITY"), (6, u "()I")] 23

def k2c0 : Code := { maxStack := 2, maxLocals := 1, code := prog_13_method_1_code, exceptionTable := #[], attributes := #[] }
def k2m0 : Method := { name := "<init>", desc := "()V", sig := { parameters := [], returnType := none }, accessFlags := 0, code := some k2c0 }
def k2c1 : Code := { maxStack := 6, maxLocals := 5, code := prog_13_method_2_code, exceptionTable := #[], attributes := #[] }
def k2m1 : Method := { name := "putVarLong", desc := "(J)V", sig := { parameters := [.long], returnType := none }, accessFlags := 0, code := some k2c1 }
def k2c2 : Code := { maxStack := 1, maxLocals := 1, code := prog_13_method_4_code, exceptionTable := #[], attributes := #[] }
def k2m2 : Method := { name := "size", desc := "()I", sig := { parameters := [], returnType := some .int }, accessFlags := 0, code := some k2c2 }
def k2c3 : Code := { maxStack := 5, maxLocals := 2, code := prog_13_method_7_code, exceptionTable := #[], attributes := #[] }
def k2m3 : Method := { name := "ensureRoom", desc := "(I)V", sig := { parameters := [.int], returnType := none }, accessFlags := 2, code := some k2c3 }
/-- com/example/loon/loon/index/ByteSink -/
def k2 : Class := { plain "com/example/loon/loon/index/ByteSink" (some 0) with
  accessFlags := 48
  interfaces := #[]
  cf := some (fileOf pool2 7 #[] #[{ accessFlags := 0, nameIndex := 5, descriptorIndex := 6, attributes := #[] }, { accessFlags := 0, nameIndex := 48, descriptorIndex := 49, attributes := #[] }, { accessFlags := 0, nameIndex := 32, descriptorIndex := 86, attributes := #[] }, { accessFlags := 2, nameIndex := 26, descriptorIndex := 27, attributes := #[] }] 48 2 #[] #[{ accessFlags := 26, nameIndex := 79, descriptorIndex := 33, attributes := #[] }, { accessFlags := 2, nameIndex := 11, descriptorIndex := 12, attributes := #[] }, { accessFlags := 2, nameIndex := 32, descriptorIndex := 33, attributes := #[] }])
  fields := #[{ name := "FIRST_CAPACITY", type := .int, accessFlags := 26, slot := 0, constantValue := 0 }, { name := "bytes", type := (.array .byte), accessFlags := 2, slot := 0, constantValue := 0 }, { name := "size", type := .int, accessFlags := 2, slot := 1, constantValue := 0 }]
  methods := #[k2m0, k2m1, k2m2, k2m3]
  instanceTypes := #[(.array .byte), .int]
  staticTypes := #[.int]
  resolved := Array.replicate 110 none
  statics := none }

def pool3 : Array CpInfo := pool [(1, .class_ 2), (0, u "java/lang/Math"), (1, .class_ 6), (1, u "java/lang/Object"), (0, u "<init>"), (0, u "()V"), (89, .class_ 100), (1, u "java/lang/Math$RandomNumberGeneratorHolder"), (71, u "negativeZeroFloatBits"), (0, u "J"), (2, u "negativeZeroDoubleBits"), (21, u "max"), (2, u "min"), (43, u "$assertionsDisabled"), (0, u "Z"), (88, u "(II)I"), (2, u "twoToTheDoubleScaleDown"), (0, u "D"), (4, u "twoToTheDoubleScaleUp"), (9, u "E"), (3, u "PI"), (2, u "TAU"), (2, u "DEGREES_TO_RADIANS"), (0, u "RADIANS_TO_DEGREES")] 94

def k3m0 : Method := { name := "<init>", desc := "()V", sig := { parameters := [], returnType := none }, accessFlags := 2, code := none }
def k3c1 : Code := { maxStack := 2, maxLocals := 2, code := jdk_29_method_65_code, exceptionTable := #[], attributes := #[] }
def k3m1 : Method := { name := "max", desc := "(II)I", sig := { parameters := [.int, .int], returnType := some .int }, accessFlags := 9, code := some k3c1 }
def k3c2 : Code := { maxStack := 2, maxLocals := 2, code := jdk_29_method_69_code, exceptionTable := #[], attributes := #[] }
def k3m2 : Method := { name := "min", desc := "(II)I", sig := { parameters := [.int, .int], returnType := some .int }, accessFlags := 9, code := some k3c2 }
/-- java/lang/Math -/
def k3 : Class := { plain "java/lang/Math" (some 0) with
  accessFlags := 49
  interfaces := #[]
  cf := some (fileOf pool3 1 #[.nestMembers #[98]] #[{ accessFlags := 2, nameIndex := 7, descriptorIndex := 8, attributes := #[] }, { accessFlags := 9, nameIndex := 198, descriptorIndex := 335, attributes := #[] }, { accessFlags := 9, nameIndex := 201, descriptorIndex := 335, attributes := #[] }] 49 4 #[] #[{ accessFlags := 25, nameIndex := 354, descriptorIndex := 339, attributes := #[] }, { accessFlags := 25, nameIndex := 358, descriptorIndex := 339, attributes := #[] }, { accessFlags := 25, nameIndex := 361, descriptorIndex := 339, attributes := #[] }, { accessFlags := 26, nameIndex := 364, descriptorIndex := 339, attributes := #[] }, { accessFlags := 26, nameIndex := 365, descriptorIndex := 339, attributes := #[] }, { accessFlags := 26, nameIndex := 172, descriptorIndex := 173, attributes := #[] }, { accessFlags := 26, nameIndex := 176, descriptorIndex := 173, attributes := #[] }, { accessFlags := 8, nameIndex := 344, descriptorIndex := 339, attributes := #[] }, { accessFlags := 8, nameIndex := 338, descriptorIndex := 339, attributes := #[] }, { accessFlags := 4120, nameIndex := 245, descriptorIndex := 246, attributes := #[] }])
  fields := #[{ name := "E", type := .double, accessFlags := 25, slot := 0, constantValue := 0 }, { name := "PI", type := .double, accessFlags := 25, slot := 1, constantValue := 0 }, { name := "TAU", type := .double, accessFlags := 25, slot := 2, constantValue := 0 }, { name := "DEGREES_TO_RADIANS", type := .double, accessFlags := 26, slot := 3, constantValue := 0 }, { name := "RADIANS_TO_DEGREES", type := .double, accessFlags := 26, slot := 4, constantValue := 0 }, { name := "negativeZeroFloatBits", type := .long, accessFlags := 26, slot := 5, constantValue := 0 }, { name := "negativeZeroDoubleBits", type := .long, accessFlags := 26, slot := 6, constantValue := 0 }, { name := "twoToTheDoubleScaleUp", type := .double, accessFlags := 8, slot := 7, constantValue := 0 }, { name := "twoToTheDoubleScaleDown", type := .double, accessFlags := 8, slot := 8, constantValue := 0 }, { name := "$assertionsDisabled", type := .boolean, accessFlags := 4120, slot := 9, constantValue := 0 }]
  methods := #[k3m0, k3m1, k3m2]
  instanceTypes := #[]
  staticTypes := #[.double, .double, .double, .double, .double, .long, .long, .double, .double, .boolean]
  resolved := Array.replicate 460 none
  statics := none }

def pool4 : Array CpInfo := pool [(2, .class_ 4), (1, u "java/lang/Object"), (0, u "<init>"), (0, u "()V"), (7, .class_ 16), (1, u "java/util/Arrays"), (57, .class_ 76), (1, u "java/util/Arrays$NaturalOrder"), (36, .class_ 115), (1, u "java/util/Arrays$LegacyMergeSort"), (1, u "Z"), (32, .methodref 151 152), (0, .class_ 153), (0, .nameAndType 154 155), (0, u "java/lang/System"), (0, u "arraycopy"), (0, u "(Ljava/lang/Object;ILjava/lang/Object;II)V"), (146, u "copyOf"), (1, .methodref 305 306), (0, .class_ 307), (0, .nameAndType 308 309), (0, u "java/lang/Math"), (0, u "min"), (0, u "(II)I"), (65, .class_ 376), (0, u "java/util/Arrays$ArrayList"), (68, u "$assertionsDisabled"), (269, u "MIN_ARRAY_SORT_GRAN"), (0, u "I"), (2, u "INSERTIONSORT_THRESHOLD"), (149, u "([BI)[B"), (105, .class_ 976), (0, u "java/util/Arrays$ArrayItr")] 52

def k4m0 : Method := { name := "<init>", desc := "()V", sig := { parameters := [], returnType := none }, accessFlags := 2, code := none }
def k4c1 : Code := { maxStack := 6, maxLocals := 3, code := jdk_65_method_121_code, exceptionTable := #[], attributes := #[] }
def k4m1 : Method := { name := "copyOf", desc := "([BI)[B", sig := { parameters := [(.array .byte), .int], returnType := some (.array .byte) }, accessFlags := 9, code := some k4c1 }
/-- java/util/Arrays -/
def k4 : Class := { plain "java/util/Arrays" (some 0) with
  accessFlags := 49
  interfaces := #[]
  cf := some (fileOf pool4 14 #[.nestMembers #[975, 375, 113, 74]] #[{ accessFlags := 2, nameIndex := 5, descriptorIndex := 6, attributes := #[] }, { accessFlags := 9, nameIndex := 302, descriptorIndex := 869, attributes := #[] }] 49 2 #[] #[{ accessFlags := 26, nameIndex := 715, descriptorIndex := 716, attributes := #[] }, { accessFlags := 26, nameIndex := 719, descriptorIndex := 716, attributes := #[] }, { accessFlags := 4120, nameIndex := 445, descriptorIndex := 117, attributes := #[] }])
  fields := #[{ name := "MIN_ARRAY_SORT_GRAN", type := .int, accessFlags := 26, slot := 0, constantValue := 0 }, { name := "INSERTIONSORT_THRESHOLD", type := .int, accessFlags := 26, slot := 1, constantValue := 0 }, { name := "$assertionsDisabled", type := .boolean, accessFlags := 4120, slot := 2, constantValue := 0 }]
  methods := #[k4m0, k4m1]
  instanceTypes := #[]
  staticTypes := #[.int, .int, .boolean]
  resolved := Array.replicate 1029 none
  statics := none }

def pool5 : Array CpInfo := pool [(2, .class_ 4), (1, u "java/lang/Object"), (0, u "<init>"), (0, u "()V"), (1, .class_ 10), (1, u "java/lang/System"), (0, u "allowSecurityManager"), (0, u "I"), (16, u "cons"), (0, u "Ljava/io/Console;"), (77, .class_ 110), (1, u "java/lang/System$CallersHolder"), (43, u "initialErrStream"), (0, u "Ljava/io/PrintStream;"), (19, u "security"), (0, u "Ljava/lang/SecurityManager;"), (31, .class_ 209), (0, u "java/lang/System$1"), (7, u "props"), (0, u "Ljava/util/Properties;"), (2, u "lineSeparator"), (0, u "Ljava/lang/String;"), (96, .class_ 321), (1, u "java/lang/System$LoggerFinder"), (5, .class_ 328), (0, u "java/lang/System$Logger"), (67, u "err"), (2, u "out"), (91, u "notSupportedJnuEncoding"), (15, u "in"), (17, u "initialIn"), (0, u "Ljava/io/InputStream;"), (35, u "bootLayer"), (0, u "Ljava/lang/ModuleLayer;"), (99, .class_ 664), (0, u "java/lang/System$2"), (9, u "NEVER"), (2, u "MAYBE"), (49, u "arraycopy"), (0, u "(Ljava/lang/Object;ILjava/lang/Object;II)V"), (72, .class_ 802), (0, u "java/lang/System$Logger$Level")] 31

def k5m0 : Method := { name := "<init>", desc := "()V", sig := { parameters := [], returnType := none }, accessFlags := 2, code := none }
def k5m1 : Method := { name := "arraycopy", desc := "(Ljava/lang/Object;ILjava/lang/Object;II)V", sig := { parameters := [(.object "java/lang/Object"), .int, (.object "java/lang/Object"), .int, .int], returnType := none }, accessFlags := 265, code := none }
/-- java/lang/System -/
def k5 : Class := { plain "java/lang/System" (some 0) with
  accessFlags := 49
  interfaces := #[]
  cf := some (fileOf pool5 8 #[.nestMembers #[319, 327, 801, 108, 663, 208]] #[{ accessFlags := 2, nameIndex := 5, descriptorIndex := 6, attributes := #[] }, { accessFlags := 265, nameIndex := 727, descriptorIndex := 728, attributes := #[] }] 49 2 #[] #[{ accessFlags := 25, nameIndex := 507, descriptorIndex := 526, attributes := #[] }, { accessFlags := 25, nameIndex := 399, descriptorIndex := 155, attributes := #[] }, { accessFlags := 25, nameIndex := 396, descriptorIndex := 155, attributes := #[] }, { accessFlags := 10, nameIndex := 525, descriptorIndex := 526, attributes := #[] }, { accessFlags := 26, nameIndex := 674, descriptorIndex := 12, attributes := #[] }, { accessFlags := 26, nameIndex := 677, descriptorIndex := 12, attributes := #[] }, { accessFlags := 10, nameIndex := 11, descriptorIndex := 12, attributes := #[] }, { accessFlags := 74, nameIndex := 175, descriptorIndex := 176, attributes := #[] }, { accessFlags := 10, nameIndex := 491, descriptorIndex := 222, attributes := #[] }, { accessFlags := 74, nameIndex := 29, descriptorIndex := 30, attributes := #[] }, { accessFlags := 74, nameIndex := 154, descriptorIndex := 155, attributes := #[] }, { accessFlags := 10, nameIndex := 217, descriptorIndex := 218, attributes := #[] }, { accessFlags := 10, nameIndex := 221, descriptorIndex := 222, attributes := #[] }, { accessFlags := 8, nameIndex := 562, descriptorIndex := 563, attributes := #[] }])
  fields := #[{ name := "in", type := (.object "java/io/InputStream"), accessFlags := 25, slot := 0, constantValue := 0 }, { name := "out", type := (.object "java/io/PrintStream"), accessFlags := 25, slot := 1, constantValue := 0 }, { name := "err", type := (.object "java/io/PrintStream"), accessFlags := 25, slot := 2, constantValue := 0 }, { name := "initialIn", type := (.object "java/io/InputStream"), accessFlags := 10, slot := 3, constantValue := 0 }, { name := "NEVER", type := .int, accessFlags := 26, slot := 4, constantValue := 0 }, { name := "MAYBE", type := .int, accessFlags := 26, slot := 5, constantValue := 0 }, { name := "allowSecurityManager", type := .int, accessFlags := 10, slot := 6, constantValue := 0 }, { name := "security", type := (.object "java/lang/SecurityManager"), accessFlags := 74, slot := 7, constantValue := 0 }, { name := "notSupportedJnuEncoding", type := (.object "java/lang/String"), accessFlags := 10, slot := 8, constantValue := 0 }, { name := "cons", type := (.object "java/io/Console"), accessFlags := 74, slot := 9, constantValue := 0 }, { name := "initialErrStream", type := (.object "java/io/PrintStream"), accessFlags := 74, slot := 10, constantValue := 0 }, { name := "props", type := (.object "java/util/Properties"), accessFlags := 10, slot := 11, constantValue := 0 }, { name := "lineSeparator", type := (.object "java/lang/String"), accessFlags := 10, slot := 12, constantValue := 0 }, { name := "bootLayer", type := (.object "java/lang/ModuleLayer"), accessFlags := 8, slot := 13, constantValue := 0 }]
  methods := #[k5m0, k5m1]
  instanceTypes := #[]
  staticTypes := #[(.object "java/io/InputStream"), (.object "java/io/PrintStream"), (.object "java/io/PrintStream"), (.object "java/io/InputStream"), .int, .int, .int, (.object "java/lang/SecurityManager"), (.object "java/lang/String"), (.object "java/io/Console"), (.object "java/io/PrintStream"), (.object "java/util/Properties"), (.object "java/lang/String"), (.object "java/lang/ModuleLayer")]
  resolved := Array.replicate 834 none
  statics := none }

def pool6 : Array CpInfo := pool [(1, u "java/lang/Cloneable"), (0, .class_ 1), (0, u "java/lang/Object"), (0, .class_ 3)] 3

/-- java/lang/Cloneable -/
def k6 : Class := { plain "java/lang/Cloneable" (some 0) with
  accessFlags := 1537
  interfaces := #[]
  cf := some (fileOf pool6 2 #[] #[] 1537 4 #[] #[])
  fields := #[]
  methods := #[]
  instanceTypes := #[]
  staticTypes := #[]
  resolved := Array.replicate 8 none
  statics := none }

def pool7 : Array CpInfo := pool [(1, u "java/io/Serializable"), (0, .class_ 1), (0, u "java/lang/Object"), (0, .class_ 3)] 3

/-- java/io/Serializable -/
def k7 : Class := { plain "java/io/Serializable" (some 0) with
  accessFlags := 1537
  interfaces := #[]
  cf := some (fileOf pool7 2 #[] #[] 1537 4 #[] #[])
  fields := #[]
  methods := #[]
  instanceTypes := #[]
  staticTypes := #[]
  resolved := Array.replicate 8 none
  statics := none }

/-- the primitive byte -/
def k8 : Class := { plain "byte" none with kind := .primitive 'B', accessFlags := 0x411 }
/-- [B -/
def k9 : Class := { plain "[B" (some 0) with kind := .array 8 .byte, interfaces := #[6, 7], accessFlags := 1041 }

/-- the primitive int -/
def k10 : Class := { plain "int" none with kind := .primitive 'I', accessFlags := 0x411 }
/-- [I -/
def k11 : Class := { plain "[I" (some 0) with kind := .array 10 .int, interfaces := #[6, 7], accessFlags := 1041 }

def heap : Heap := #[]
def classes : Array Class := #[k0, k1, k2, k3, k4, k5, k6, k7, k8, k9, k10, k11]
def interned : List (Array UInt16 × Addr) := []
def slotsUsed : Nat := 0
def theMethod : MethodId := ⟨1, 2⟩
def args0 : Array Value := #[.long 12345, .int 3, .long 77777, .int 2, .long 99, .int 1]
def aboutOver (below : List Frame) : State where
  vm := { classes := classes, interned := interned.toArray }
  heap := heap
  slotsUsed := slotsUsed
  threads := #[{ frames := .invoking theMethod args0 :: below }]
def below0 : List Frame := [.native { method := ⟨0, 0⟩, args := #[] }]
def about1 : State := aboutOver below0
def p0 : Program := .bare "" "" ""
def e0 : Env := launch0.env 0 0 0
theorem w_frames : about1.frames = Frame.invoking theMethod args0 :: below0 := rfl
set_option maxRecDepth 65536 in
theorem w_args : argsFit about1.vm theMethod args0 = true := by decide +kernel
set_option maxRecDepth 65536 in
theorem w_heap : heapFits about1 = true := by decide +kernel
set_option maxRecDepth 65536 in
theorem w_runnable : about1.curStatus? = some .runnable := by decide +kernel
set_option maxRecDepth 65536 in
theorem w_alone : about1.alone = true := by decide +kernel
set_option maxRecDepth 65536 in
theorem w_named : about1.methodNamed? x = some theMethod := by decide +kernel
set_option maxRecDepth 65536 in
theorem w_hears : about1.hears theMethod below0 = true := by decide +kernel
set_option maxRecDepth 65536 in
theorem w_ripe : about1.ripe theMethod args0 below0 = true := by decide +kernel
theorem w_running : about1.status = .running := rfl
set_option maxRecDepth 65536 in
theorem w_room : about1.hasRoom e0.platform room_1 = true :=
  launch0.hasRoom_least _ room_1 (by decide +kernel) (by decide +kernel) (by decide +kernel) (by decide +kernel) (by decide +kernel) (by decide +kernel)
theorem allAtoms_all (ts : List Jvm.Cond) (a : Array Jvm.Value) (st : Jvm.State) : (allAtoms ts).before a st = ts.all (fun c => c.before a st) := by
  induction ts with
  | nil => rfl
  | cons c t ih =>
    show (Jvm.Cond.and c (allAtoms t)).before a st = _
    rw [Jvm.Cond.before_and, ih, List.all_cons]
def words1 : List Jvm.Cond := Jvm.Cond.code x code maxLocals ret :: tables_1
/-- a 'code' word, met by the world's own term for the bytes: nothing is compared byte by byte -/
theorem code_word {y : MethodName} {bytes : ByteArray} {mx : Nat} {rt : Option FieldType} {a : Array Value} {s : State} {m : MethodId} {meth : Method} {c : Code} (h1 : s.methodNamed? y = some m) (h2 : s.vm.method? m = some meth) (h3 : meth.code = some c) (h4 : c.code = bytes)
    (h5 : (c.maxLocals == mx && c.exceptionTable.isEmpty && decide (c.maxStack ≤ mostOperands) && decide (meth.sig.returnType = rt) && !meth.locks && decide (parseMethodDescriptor y.desc = some meth.sig)) = true) : (Jvm.Cond.code y bytes mx rt).before a s = true := by
  simp only [Bool.and_eq_true, beq_iff_eq, Bool.not_eq_true', decide_eq_true_eq] at h5
  obtain ⟨⟨⟨⟨⟨g1, g2⟩, g3⟩, g4⟩, g5⟩, g6⟩ := h5
  simp [Cond.before, Cond.holds, Cond.value, h1, h2, h3, h4, g1, g2, g3, g4, g5, g6]
def isCode : Jvm.Cond → Bool
  | .code _ _ _ _ => true
  | _ => false
theorem all_split {L : List Jvm.Cond} {P : Jvm.Cond → Bool} (h1 : L.all (fun c => isCode c || P c) = true) (h2 : ∀ c ∈ L.filter isCode, P c = true) : L.all P = true := by
  refine List.all_eq_true.mpr fun c hc => ?_
  have h := List.all_eq_true.mp h1 c hc
  rcases Bool.eq_false_or_eq_true (isCode c) with hi | hi
  · exact h2 c (List.mem_filter.mpr ⟨hc, hi⟩)
  · simpa [hi] using h
set_option maxRecDepth 65536 in
theorem w_c0 : (Jvm.Cond.code x code maxLocals ret).before args0 about1 = true := code_word (m := ⟨1, 2⟩) (meth := k1m2) (c := k1c2) (by decide +kernel) rfl rfl rfl (by decide +kernel)
set_option maxRecDepth 65536 in
theorem w_c1 : (Jvm.Cond.code ({ cls := "com/example/loon/loon/index/ByteSink", name := "<init>", desc := "()V" } : Jvm.MethodName) prog_13_method_1_code (1 : Nat) (Option.none : Option Jvm.ClassFile.FieldType)).before args0 about1 = true := code_word (m := ⟨2, 0⟩) (meth := k2m0) (c := k2c0) (by decide +kernel) rfl rfl rfl (by decide +kernel)
set_option maxRecDepth 65536 in
theorem w_c2 : (Jvm.Cond.code ({ cls := "java/lang/Object", name := "<init>", desc := "()V" } : Jvm.MethodName) object_method_1_code (1 : Nat) (Option.none : Option Jvm.ClassFile.FieldType)).before args0 about1 = true := code_word (m := ⟨0, 0⟩) (meth := k0m0) (c := k0c0) (by decide +kernel) rfl rfl rfl (by decide +kernel)
set_option maxRecDepth 65536 in
theorem w_c3 : (Jvm.Cond.code ({ cls := "com/example/loon/loon/index/ByteSink", name := "size", desc := "()I" } : Jvm.MethodName) prog_13_method_4_code (1 : Nat) (Option.some Jvm.ClassFile.FieldType.int)).before args0 about1 = true := code_word (m := ⟨2, 2⟩) (meth := k2m2) (c := k2c2) (by decide +kernel) rfl rfl rfl (by decide +kernel)
set_option maxRecDepth 65536 in
theorem w_c4 : (Jvm.Cond.code ({ cls := "com/example/loon/loon/index/ByteSink", name := "putVarLong", desc := "(J)V" } : Jvm.MethodName) prog_13_method_2_code (5 : Nat) (Option.none : Option Jvm.ClassFile.FieldType)).before args0 about1 = true := code_word (m := ⟨2, 1⟩) (meth := k2m1) (c := k2c1) (by decide +kernel) rfl rfl rfl (by decide +kernel)
set_option maxRecDepth 65536 in
theorem w_c5 : (Jvm.Cond.code ({ cls := "com/example/loon/loon/index/ByteSink", name := "ensureRoom", desc := "(I)V" } : Jvm.MethodName) prog_13_method_7_code (2 : Nat) (Option.none : Option Jvm.ClassFile.FieldType)).before args0 about1 = true := code_word (m := ⟨2, 3⟩) (meth := k2m3) (c := k2c3) (by decide +kernel) rfl rfl rfl (by decide +kernel)
set_option maxRecDepth 65536 in
theorem w_c6 : (Jvm.Cond.code ({ cls := "java/lang/Math", name := "max", desc := "(II)I" } : Jvm.MethodName) jdk_29_method_65_code (2 : Nat) (Option.some Jvm.ClassFile.FieldType.int)).before args0 about1 = true := code_word (m := ⟨3, 1⟩) (meth := k3m1) (c := k3c1) (by decide +kernel) rfl rfl rfl (by decide +kernel)
set_option maxRecDepth 65536 in
theorem w_c7 : (Jvm.Cond.code ({ cls := "java/util/Arrays", name := "copyOf", desc := "([BI)[B" } : Jvm.MethodName) jdk_65_method_121_code (3 : Nat) (Option.some (Jvm.ClassFile.FieldType.array Jvm.ClassFile.FieldType.byte))).before args0 about1 = true := code_word (m := ⟨4, 1⟩) (meth := k4m1) (c := k4c1) (by decide +kernel) rfl rfl rfl (by decide +kernel)
set_option maxRecDepth 65536 in
theorem w_c8 : (Jvm.Cond.code ({ cls := "java/lang/Math", name := "min", desc := "(II)I" } : Jvm.MethodName) jdk_29_method_69_code (2 : Nat) (Option.some Jvm.ClassFile.FieldType.int)).before args0 about1 = true := code_word (m := ⟨3, 2⟩) (meth := k3m2) (c := k3c2) (by decide +kernel) rfl rfl rfl (by decide +kernel)
set_option maxRecDepth 65536 in
theorem w_c9 : (Jvm.Cond.code ({ cls := "com/example/loon/loon/index/ByteSinkPutVarLongPinLaw", name := "len", desc := "(J)I" } : Jvm.MethodName) method_2_code (2 : Nat) (Option.some Jvm.ClassFile.FieldType.int)).before args0 about1 = true := code_word (m := ⟨1, 1⟩) (meth := k1m1) (c := k1c1) (by decide +kernel) rfl rfl rfl (by decide +kernel)
def codes1 : List Jvm.Cond := [Jvm.Cond.code x code maxLocals ret, Jvm.Cond.code ({ cls := "com/example/loon/loon/index/ByteSink", name := "<init>", desc := "()V" } : Jvm.MethodName) prog_13_method_1_code (1 : Nat) (Option.none : Option Jvm.ClassFile.FieldType), Jvm.Cond.code ({ cls := "java/lang/Object", name := "<init>", desc := "()V" } : Jvm.MethodName) object_method_1_code (1 : Nat) (Option.none : Option Jvm.ClassFile.FieldType), Jvm.Cond.code ({ cls := "com/example/loon/loon/index/ByteSink", name := "size", desc := "()I" } : Jvm.MethodName) prog_13_method_4_code (1 : Nat) (Option.some Jvm.ClassFile.FieldType.int), Jvm.Cond.code ({ cls := "com/example/loon/loon/index/ByteSink", name := "putVarLong", desc := "(J)V" } : Jvm.MethodName) prog_13_method_2_code (5 : Nat) (Option.none : Option Jvm.ClassFile.FieldType), Jvm.Cond.code ({ cls := "com/example/loon/loon/index/ByteSink", name := "ensureRoom", desc := "(I)V" } : Jvm.MethodName) prog_13_method_7_code (2 : Nat) (Option.none : Option Jvm.ClassFile.FieldType), Jvm.Cond.code ({ cls := "java/lang/Math", name := "max", desc := "(II)I" } : Jvm.MethodName) jdk_29_method_65_code (2 : Nat) (Option.some Jvm.ClassFile.FieldType.int), Jvm.Cond.code ({ cls := "java/util/Arrays", name := "copyOf", desc := "([BI)[B" } : Jvm.MethodName) jdk_65_method_121_code (3 : Nat) (Option.some (Jvm.ClassFile.FieldType.array Jvm.ClassFile.FieldType.byte)), Jvm.Cond.code ({ cls := "java/lang/Math", name := "min", desc := "(II)I" } : Jvm.MethodName) jdk_29_method_69_code (2 : Nat) (Option.some Jvm.ClassFile.FieldType.int), Jvm.Cond.code ({ cls := "com/example/loon/loon/index/ByteSinkPutVarLongPinLaw", name := "len", desc := "(J)I" } : Jvm.MethodName) method_2_code (2 : Nat) (Option.some Jvm.ClassFile.FieldType.int)]
set_option maxRecDepth 65536 in
theorem codes_eq : words1.filter isCode = codes1 := rfl
theorem w_codes : ∀ c ∈ words1.filter isCode, c.before args0 about1 = true := by
  rw [codes_eq]
  intro c hc
  simp only [codes1, List.mem_cons, List.not_mem_nil, or_false] at hc
  rcases hc with rfl | rfl | rfl | rfl | rfl | rfl | rfl | rfl | rfl | rfl
  · exact w_c0
  · exact w_c1
  · exact w_c2
  · exact w_c3
  · exact w_c4
  · exact w_c5
  · exact w_c6
  · exact w_c7
  · exact w_c8
  · exact w_c9
set_option maxRecDepth 65536 in
theorem w_t1 : (words1.take 24).all (fun c => isCode c || c.before args0 about1) = true := by decide +kernel
set_option maxRecDepth 65536 in
theorem w_t2 : ((words1.drop 24).take 24).all (fun c => isCode c || c.before args0 about1) = true := by decide +kernel
set_option maxRecDepth 65536 in
theorem w_t3 : ((words1.drop 24).drop 24).all (fun c => isCode c || c.before args0 about1) = true := by decide +kernel
theorem w_tables : (allAtoms (Jvm.Cond.code x code maxLocals ret :: tables_1)).before args0 about1 = true := by
  rw [allAtoms_all]
  show words1.all (fun c => c.before args0 about1) = true
  refine all_split ?_ w_codes
  rw [← List.take_append_drop 24 words1, List.all_append, w_t1, ← List.take_append_drop 24 (words1.drop 24), List.all_append, w_t2, w_t3]
  rfl
set_option maxRecDepth 65536 in
theorem w_case : (Jvm.Cond.and given_1 narrow_1).before args0 about1 = true := by decide +kernel
theorem w_applies : (headSpec (Jvm.Cond.code x code maxLocals ret :: tables_1) room_1).applies x e0.platform about1 = true :=
  (Spec.applies_iff w_frames).mpr ⟨w_running, w_runnable, w_alone, w_named, w_hears, w_ripe, w_room, w_tables⟩
theorem atStart : AtStart classFile x code maxLocals ret World_1 tables_1 room_1 Calls_1 rest_1 Pre_1 launch0 p0 e0 about1 theMethod args0 below0 :=
  ⟨lists_1, trivial, launch0.admits_env _ _ _, launch0.least_env, fairChoices_fair.cas, fairChoices_fair.clock, w_frames, w_args, w_heap, w_applies, trivial, trivial, w_case⟩
end start1
theorem witness_1 : WitnessClaimed_1 := ⟨start1.p0, start1.e0, start1.about1, start1.theMethod, start1.args0, start1.below0, start1.atStart⟩
end Jvm.Pilot.@@N@@
