import JvmDerived
import JvmDerived.Pilot.@@N@@Statement
import JvmDerived.Pilot.@@N@@Code
set_option linter.unusedVariables false
set_option linter.unusedSimpArgs false
namespace Jvm.Pilot.@@N@@
open Jvm Jvm.ClassFile Sem Op Lib Jvm.Free Jvm.Stand Jvm.LawKit Jvm.RoadKit Bundle Jvm.Pilot.@@N@@.Jvm.D
def own_Go (p : Program) (e : Env) (below : List Frame) (G : State → Outcome → Prop) (σ : State) : Prop := ∃ U o, Steps p.tables e below σ U ∧ U.status = .running ∧ Ended U below o ∧ G U o
theorem own_go {p : Program} {e : Env} {below : List Frame} {G : State → Outcome → Prop} {σ σ' : State} (h : ∀ t, Steps p.tables e below σ' t → Steps p.tables e below σ t) (k : own_Go p e below G σ') : own_Go p e below G σ := by
  obtain ⟨U, o, h1, h2⟩ := k
  exact ⟨U, o, h _ h1, h2⟩
def own_Post (s : State) (Q : Option Value → Heap → List Loc → Prop) (C S : Nat) (U : State) (o : Outcome) : Prop := ∃ v L, o = .returned v ∧ Q v U.heap L ∧ FrameEnd s o U L C S
theorem own_ltL {x y : Int64} (h : x < y) : ifCond.holds .lt (lcmpW x y) = true ∧ ifCond.holds .ge (lcmpW x y) = false := by
  have q := (lw_lt x y).mpr h
  exact ⟨(if0 _ _).trans (tlt q).1, (if0 _ _).trans (tlt q).2.1⟩
theorem own_nltL {x y : Int64} (h : ¬ x < y) : ifCond.holds .lt (lcmpW x y) = false ∧ ifCond.holds .ge (lcmpW x y) = true := by
  have q := fun z => h ((lw_lt x y).mp z)
  exact ⟨(if0 _ _).trans (flt q).1, (if0 _ _).trans (flt q).2.1⟩
theorem own_gtL {x y : Int64} (h : y < x) : ifCond.holds .gt (lcmpW x y) = true ∧ ifCond.holds .le (lcmpW x y) = false := by
  have q := (lw_gt x y).mpr h
  exact ⟨(if0 _ _).trans (tlt q).2.2.1, (if0 _ _).trans (tlt q).2.2.2⟩
theorem own_ngtL {x y : Int64} (h : ¬ y < x) : ifCond.holds .gt (lcmpW x y) = false ∧ ifCond.holds .le (lcmpW x y) = true := by
  have q := fun z => h ((lw_gt x y).mp z)
  exact ⟨(if0 _ _).trans (flt q).2.2.1, (if0 _ _).trans (flt q).2.2.2⟩
theorem own_eqL {x y : Int64} (h : x = y) : ifCond.holds .eq (lcmpW x y) = true ∧ ifCond.holds .ne (lcmpW x y) = false := by
  have q := (lw_eq x y).mpr h
  exact ⟨(if0 _ _).trans (teq q).1, (if0 _ _).trans (teq q).2⟩
theorem own_neL {x y : Int64} (h : ¬ x = y) : ifCond.holds .eq (lcmpW x y) = false ∧ ifCond.holds .ne (lcmpW x y) = true := by
  have q := fun z => h ((lw_eq x y).mp z)
  exact ⟨(if0 _ _).trans (feq q).1, (if0 _ _).trans (feq q).2⟩
section OwnSteps
variable {p : Program} {l : Launch} {e : Env} {R : Room} {s : State} {m : MethodId} {args : Array Value} {below : List Frame} {meth : Method} {c : Code} {T : State} {locs : List Loc} {cells slots : Nat} {G : State → Outcome → Prop} {Ls : Array Slot} {rest : List Value} {pc : Nat}
theorem own_iloadN (X : Stand p l e R s m args below meth c T locs cells slots) (hx : p.tables.exec = Jvm.exec) {i : Fin 4} {v : Int32} (hd : decode c.code pc = .ok (.iload_n i, 1)) (hl : Ls[i.val]? = some (.val (.int v))) (pc' : Nat) (hp : pc + 1 = pc') (k : own_Go p e below G (T.setTop (mkF m pc' Ls (.int v :: rest)))) : own_Go p e below G (T.setTop (mkF m pc Ls (rest))) := by
  subst hp; exact own_go (fun t q => XS.iloadN X.here hx rfl hd hl q) k
theorem own_iload (X : Stand p l e R s m args below meth c T locs cells slots) (hx : p.tables.exec = Jvm.exec) {i : Nat} {v : Int32} (hd : decode c.code pc = .ok (.iload i, 2)) (hl : Ls[i]? = some (.val (.int v))) (pc' : Nat) (hp : pc + 2 = pc') (k : own_Go p e below G (T.setTop (mkF m pc' Ls (.int v :: rest)))) : own_Go p e below G (T.setTop (mkF m pc Ls (rest))) := by
  subst hp; exact own_go (fun t q => XS.iload X.here hx rfl hd hl q) k
theorem own_lloadN (X : Stand p l e R s m args below meth c T locs cells slots) (hx : p.tables.exec = Jvm.exec) {i : Fin 4} {v : Int64} (hd : decode c.code pc = .ok (.lload_n i, 1)) (hl : Ls[i.val]? = some (.val (.long v))) (pc' : Nat) (hp : pc + 1 = pc') (k : own_Go p e below G (T.setTop (mkF m pc' Ls (.long v :: rest)))) : own_Go p e below G (T.setTop (mkF m pc Ls (rest))) := by
  subst hp; exact own_go (fun t q => XS.lloadN X.here hx rfl hd hl q) k
theorem own_lload (X : Stand p l e R s m args below meth c T locs cells slots) (hx : p.tables.exec = Jvm.exec) {i : Nat} {v : Int64} (hd : decode c.code pc = .ok (.lload i, 2)) (hl : Ls[i]? = some (.val (.long v))) (pc' : Nat) (hp : pc + 2 = pc') (k : own_Go p e below G (T.setTop (mkF m pc' Ls (.long v :: rest)))) : own_Go p e below G (T.setTop (mkF m pc Ls (rest))) := by
  subst hp; exact own_go (fun t q => XS.lload X.here hx rfl hd hl q) k
theorem own_aloadN (X : Stand p l e R s m args below meth c T locs cells slots) (hx : p.tables.exec = Jvm.exec) {i : Fin 4} {v : Value} (hd : decode c.code pc = .ok (.aload_n i, 1)) (hl : Ls[i.val]? = some (.val v)) (hv : v.isRef = true) (pc' : Nat) (hp : pc + 1 = pc') (k : own_Go p e below G (T.setTop (mkF m pc' Ls (v :: rest)))) : own_Go p e below G (T.setTop (mkF m pc Ls (rest))) := by
  subst hp; exact own_go (fun t q => XS.aloadN X.here hx rfl hd hl hv q) k
theorem own_aload (X : Stand p l e R s m args below meth c T locs cells slots) (hx : p.tables.exec = Jvm.exec) {i : Nat} {v : Value} (hd : decode c.code pc = .ok (.aload i, 2)) (hl : Ls[i]? = some (.val v)) (hv : v.isRef = true) (pc' : Nat) (hp : pc + 2 = pc') (k : own_Go p e below G (T.setTop (mkF m pc' Ls (v :: rest)))) : own_Go p e below G (T.setTop (mkF m pc Ls (rest))) := by
  subst hp; exact own_go (fun t q => XS.aload X.here hx rfl hd hl hv q) k
theorem own_istoreN (X : Stand p l e R s m args below meth c T locs cells slots) (hx : p.tables.exec = Jvm.exec) {i : Fin 4} {v : Int32} (hd : decode c.code pc = .ok (.istore_n i, 1)) (l' : Array Slot) (hl : storeLocals Ls i.val (.int v) = some l') (pc' : Nat) (hp : pc + 1 = pc') (k : own_Go p e below G (T.setTop (mkF m pc' l' (rest)))) : own_Go p e below G (T.setTop (mkF m pc Ls (.int v :: rest))) := by
  subst hp; exact own_go (fun t q => XS.istoreN X.here hx rfl hd rfl hl q) k
theorem own_istore (X : Stand p l e R s m args below meth c T locs cells slots) (hx : p.tables.exec = Jvm.exec) {i : Nat} {v : Int32} (hd : decode c.code pc = .ok (.istore i, 2)) (l' : Array Slot) (hl : storeLocals Ls i (.int v) = some l') (pc' : Nat) (hp : pc + 2 = pc') (k : own_Go p e below G (T.setTop (mkF m pc' l' (rest)))) : own_Go p e below G (T.setTop (mkF m pc Ls (.int v :: rest))) := by
  subst hp; exact own_go (fun t q => XS.istore X.here hx rfl hd rfl hl q) k
theorem own_astore (X : Stand p l e R s m args below meth c T locs cells slots) (hx : p.tables.exec = Jvm.exec) {i : Nat} {v : Value} (hd : decode c.code pc = .ok (.astore i, 2)) (hv : v.isRef = true) (l' : Array Slot) (hl : storeLocals Ls i v = some l') (pc' : Nat) (hp : pc + 2 = pc') (k : own_Go p e below G (T.setTop (mkF m pc' l' (rest)))) : own_Go p e below G (T.setTop (mkF m pc Ls (v :: rest))) := by
  subst hp; exact own_go (fun t q => XS.astore X.here hx rfl hd rfl hv hl q) k
theorem own_iinc (X : Stand p l e R s m args below meth c T locs cells slots) (hx : p.tables.exec = Jvm.exec) {i : Nat} {z : Int} {v : Int32} (hd : decode c.code pc = .ok (.iinc i z, 3)) (hl : Ls[i]? = some (.val (.int v))) (l' : Array Slot) (hl' : storeLocals Ls i (.int (v + Int32.ofInt z)) = some l') (pc' : Nat) (hp : pc + 3 = pc') (k : own_Go p e below G (T.setTop (mkF m pc' l' (rest)))) : own_Go p e below G (T.setTop (mkF m pc Ls (rest))) := by
  subst hp; exact own_go (fun t q => XS.iinc X.here hx rfl hd hl hl' q) k
theorem own_iconst (X : Stand p l e R s m args below meth c T locs cells slots) (hx : p.tables.exec = Jvm.exec) {i : Int} (hd : decode c.code pc = .ok (.iconst i, 1)) (v : Int32) (hv : v = Int32.ofInt i) (pc' : Nat) (hp : pc + 1 = pc') (k : own_Go p e below G (T.setTop (mkF m pc' Ls (.int v :: rest)))) : own_Go p e below G (T.setTop (mkF m pc Ls (rest))) := by
  subst hp; exact own_go (fun t q => XS.iconst X.here hx rfl hd (hv ▸ q)) k
theorem own_bipush (X : Stand p l e R s m args below meth c T locs cells slots) (hx : p.tables.exec = Jvm.exec) {i : Int} (hd : decode c.code pc = .ok (.bipush i, 2)) (v : Int32) (hv : v = (Int8.ofInt i).toInt32) (pc' : Nat) (hp : pc + 2 = pc') (k : own_Go p e below G (T.setTop (mkF m pc' Ls (.int v :: rest)))) : own_Go p e below G (T.setTop (mkF m pc Ls (rest))) := by
  subst hp; exact own_go (fun t q => XS.bipush X.here hx rfl hd (hv ▸ q)) k
theorem own_lconst (X : Stand p l e R s m args below meth c T locs cells slots) (hx : p.tables.exec = Jvm.exec) {i : Fin 2} (hd : decode c.code pc = .ok (.lconst i, 1)) (v : Int64) (hv : v = Int64.ofNat i) (pc' : Nat) (hp : pc + 1 = pc') (k : own_Go p e below G (T.setTop (mkF m pc' Ls (.long v :: rest)))) : own_Go p e below G (T.setTop (mkF m pc Ls (rest))) := by
  subst hp; exact own_go (fun t q => XS.lconst X.here hx rfl hd (hv ▸ q)) k
theorem own_iadd (X : Stand p l e R s m args below meth c T locs cells slots) (hx : p.tables.exec = Jvm.exec) {x y : Int32} (hd : decode c.code pc = .ok (.iadd, 1)) (pc' : Nat) (hp : pc + 1 = pc') (k : own_Go p e below G (T.setTop (mkF m pc' Ls (.int (x + y) :: rest)))) : own_Go p e below G (T.setTop (mkF m pc Ls (.int y :: .int x :: rest))) := by
  subst hp; exact own_go (fun t q => XS.iadd X.here hx rfl hd rfl q) k
theorem own_isub (X : Stand p l e R s m args below meth c T locs cells slots) (hx : p.tables.exec = Jvm.exec) {x y : Int32} (hd : decode c.code pc = .ok (.isub, 1)) (pc' : Nat) (hp : pc + 1 = pc') (k : own_Go p e below G (T.setTop (mkF m pc' Ls (.int (x - y) :: rest)))) : own_Go p e below G (T.setTop (mkF m pc Ls (.int y :: .int x :: rest))) := by
  subst hp; exact own_go (fun t q => XS.isub X.here hx rfl hd rfl q) k
theorem own_ladd (X : Stand p l e R s m args below meth c T locs cells slots) (hx : p.tables.exec = Jvm.exec) {x y : Int64} (hd : decode c.code pc = .ok (.ladd, 1)) (pc' : Nat) (hp : pc + 1 = pc') (k : own_Go p e below G (T.setTop (mkF m pc' Ls (.long (x + y) :: rest)))) : own_Go p e below G (T.setTop (mkF m pc Ls (.long y :: .long x :: rest))) := by
  subst hp; exact own_go (fun t q => XS.ladd X.here hx rfl hd rfl q) k
theorem own_i2b (X : Stand p l e R s m args below meth c T locs cells slots) (hx : p.tables.exec = Jvm.exec) {x : Int32} (hd : decode c.code pc = .ok (.i2b, 1)) (pc' : Nat) (hp : pc + 1 = pc') (k : own_Go p e below G (T.setTop (mkF m pc' Ls (.int x.toInt8.toInt32 :: rest)))) : own_Go p e below G (T.setTop (mkF m pc Ls (.int x :: rest))) := by
  subst hp; exact own_go (fun t q => XS.i2b X.here hx rfl hd rfl q) k
theorem own_dup (X : Stand p l e R s m args below meth c T locs cells slots) (hx : p.tables.exec = Jvm.exec) {x : Value} (hd : decode c.code pc = .ok (.dup, 1)) (hc : x.category = 1) (pc' : Nat) (hp : pc + 1 = pc') (k : own_Go p e below G (T.setTop (mkF m pc' Ls (x :: x :: rest)))) : own_Go p e below G (T.setTop (mkF m pc Ls (x :: rest))) := by
  subst hp; exact own_go (fun t q => XS.dup X.here hx rfl hd rfl hc q) k
theorem own_dupX1 (X : Stand p l e R s m args below meth c T locs cells slots) (hx : p.tables.exec = Jvm.exec) {x y : Value} (hd : decode c.code pc = .ok (.dup_x1, 1)) (hc : x.category = 1) (hc' : y.category = 1) (pc' : Nat) (hp : pc + 1 = pc') (k : own_Go p e below G (T.setTop (mkF m pc' Ls (x :: y :: x :: rest)))) : own_Go p e below G (T.setTop (mkF m pc Ls (x :: y :: rest))) := by
  subst hp; exact own_go (fun t q => XS.dupX1 X.here hx rfl hd rfl hc hc' q) k
theorem own_lcmp (X : Stand p l e R s m args below meth c T locs cells slots) (hx : p.tables.exec = Jvm.exec) {x y : Int64} (hd : decode c.code pc = .ok (.lcmp, 1)) (pc' : Nat) (hp : pc + 1 = pc') (k : own_Go p e below G (T.setTop (mkF m pc' Ls (.int (lcmpW x y) :: rest)))) : own_Go p e below G (T.setTop (mkF m pc Ls (.long y :: .long x :: rest))) := by
  subst hp; exact own_go (fun t q => XS.lcmp X.here hx rfl hd rfl q) k
theorem own_goto (X : Stand p l e R s m args below meth c T locs cells slots) (hx : p.tables.exec = Jvm.exec) {o : Int} (hd : decode c.code pc = .ok (.goto o, 3)) (pc' : Nat) (hp : 0 ≤ (pc : Int) + o ∧ ((pc : Int) + o).toNat = pc') (k : own_Go p e below G (T.setTop (mkF m pc' Ls rest))) : own_Go p e below G (T.setTop (mkF m pc Ls rest)) :=
  own_go (fun t q => XS.goto X.here hx rfl (pc0 := pc) (pc' := pc') rfl hd hp.1 hp.2 q) k
theorem own_ifY (X : Stand p l e R s m args below meth c T locs cells slots) (hx : p.tables.exec = Jvm.exec) {o : Int} {cd : ClassFile.Cond} {x : Int32} (hd : decode c.code pc = .ok (.ifCond cd o, 3)) (hc : ifCond.holds cd x = true) (pc' : Nat) (hp : 0 ≤ (pc : Int) + o ∧ ((pc : Int) + o).toNat = pc') (k : own_Go p e below G (T.setTop (mkF m pc' Ls rest))) : own_Go p e below G (T.setTop (mkF m pc Ls (.int x :: rest))) :=
  own_go (fun t q => XS.ifYes X.here hx rfl (pc0 := pc) (pc' := pc') rfl hd rfl hc hp.1 hp.2 q) k
theorem own_ifN (X : Stand p l e R s m args below meth c T locs cells slots) (hx : p.tables.exec = Jvm.exec) {o : Int} {cd : ClassFile.Cond} {x : Int32} (hd : decode c.code pc = .ok (.ifCond cd o, 3)) (hc : ifCond.holds cd x = false) (pc' : Nat) (hp : pc + 3 = pc') (k : own_Go p e below G (T.setTop (mkF m pc' Ls (rest)))) : own_Go p e below G (T.setTop (mkF m pc Ls (.int x :: rest))) := by
  subst hp; exact own_go (fun t q => XS.ifNo X.here hx rfl hd rfl hc q) k
theorem own_icmpY (X : Stand p l e R s m args below meth c T locs cells slots) (hx : p.tables.exec = Jvm.exec) {o : Int} {cd : ClassFile.Cond} {x y : Int32} (hd : decode c.code pc = .ok (.if_icmp cd o, 3)) (hc : if_icmp.holds cd x y = true) (pc' : Nat) (hp : 0 ≤ (pc : Int) + o ∧ ((pc : Int) + o).toNat = pc') (k : own_Go p e below G (T.setTop (mkF m pc' Ls rest))) : own_Go p e below G (T.setTop (mkF m pc Ls (.int y :: .int x :: rest))) :=
  own_go (fun t q => XS.icmpYes X.here hx rfl (pc0 := pc) (pc' := pc') rfl hd rfl hc hp.1 hp.2 q) k
theorem own_icmpN (X : Stand p l e R s m args below meth c T locs cells slots) (hx : p.tables.exec = Jvm.exec) {o : Int} {cd : ClassFile.Cond} {x y : Int32} (hd : decode c.code pc = .ok (.if_icmp cd o, 3)) (hc : if_icmp.holds cd x y = false) (pc' : Nat) (hp : pc + 3 = pc') (k : own_Go p e below G (T.setTop (mkF m pc' Ls (rest)))) : own_Go p e below G (T.setTop (mkF m pc Ls (.int y :: .int x :: rest))) := by
  subst hp; exact own_go (fun t q => XS.icmpNo X.here hx rfl hd rfl hc q) k
theorem own_ret {f : JFrame} {Q : Option Value → Heap → List Loc → Prop} {C S : Nat} (X : Stand p l e R s m args below meth c T locs cells slots) (hlk : meth.locks = false) (hG : own_Post s Q C S = G) {v : Option Value} (hv : meth.sig.returnType = none → v = none)
    (st : ∀ fs, (∀ (f : JFrame) (acts : List Action), f.method = m → f.locked = none → f.entered = [] → (doReturn e (T.setTop f) acts v).1 = T.setFrames fs) → Steps p.tables e below (T.setTop f) (T.setFrames fs)) (hc : cells ≤ C) (hs : slots ≤ S) (hq : Q v T.heap locs) : own_Go p e below G (T.setTop f) := by
  subst hG
  obtain ⟨fs, hr, hrun, hended, hW, hsame⟩ := X.leave (v := v) hv hlk
  exact ⟨_, _, st fs hr, hrun, hended, _, _, rfl, hq, ⟨_, rfl⟩, hW, hsame.mono hc hs⟩
theorem own_ireturn {z : Int32} {Q : Option Value → Heap → List Loc → Prop} {C S : Nat} (X : Stand p l e R s m args below meth c T locs cells slots) (hx : p.tables.exec = Jvm.exec) (hlk : meth.locks = false) (hG : own_Post s Q C S = G) (hret : meth.sig.returnType = some .int) (hd : decode c.code pc = .ok (.ireturn, 1)) (hc : cells ≤ C) (hs : slots ≤ S) (hq : Q (some (.int z)) T.heap locs) : own_Go p e below G (T.setTop (mkF m pc Ls (.int z :: rest))) :=
  own_ret X hlk hG (fun h => by rw [hret] at h; cases h) (fun fs hr => retOut X hx hret rfl (Or.inl ⟨rfl, Or.inl rfl, _, rfl⟩) hd hr) hc hs hq
theorem own_nreturn {z : Int32} {ty : FieldType} {Q : Option Value → Heap → List Loc → Prop} {C S : Nat} (X : Stand p l e R s m args below meth c T locs cells slots) (hx : p.tables.exec = Jvm.exec) (hlk : meth.locks = false) (hG : own_Post s Q C S = G) (hret : meth.sig.returnType = some ty) (ht : ty = .boolean ∨ ty = .byte ∨ ty = .char ∨ ty = .short) (hd : decode c.code pc = .ok (.ireturn, 1)) (hc : cells ≤ C) (hs : slots ≤ S) (hq : Q (some (.int (nar ty z))) T.heap locs) : own_Go p e below G (T.setTop (mkF m pc Ls (.int z :: rest))) :=
  own_ret X hlk hG (fun h => by rw [hret] at h; cases h) (fun fs hr => retN X hx hret ht hd hr) hc hs hq
theorem own_lreturn {z : Int64} {Q : Option Value → Heap → List Loc → Prop} {C S : Nat} (X : Stand p l e R s m args below meth c T locs cells slots) (hx : p.tables.exec = Jvm.exec) (hlk : meth.locks = false) (hG : own_Post s Q C S = G) (hret : meth.sig.returnType = some .long) (hd : decode c.code pc = .ok (.lreturn, 1)) (hc : cells ≤ C) (hs : slots ≤ S) (hq : Q (some (.long z)) T.heap locs) : own_Go p e below G (T.setTop (mkF m pc Ls (.long z :: rest))) :=
  own_ret X hlk hG (fun h => by rw [hret] at h; cases h) (fun fs hr => retOut X hx hret rfl (Or.inr (Or.inl ⟨rfl, rfl, _, rfl⟩)) hd hr) hc hs hq
theorem own_return {Q : Option Value → Heap → List Loc → Prop} {C S : Nat} (X : Stand p l e R s m args below meth c T locs cells slots) (hx : p.tables.exec = Jvm.exec) (hlk : meth.locks = false) (hG : own_Post s Q C S = G) (hret : meth.sig.returnType = none) (hd : decode c.code pc = .ok (.return_, 1)) (hc : cells ≤ C) (hs : slots ≤ S) (hq : Q none T.heap locs) : own_Go p e below G (T.setTop (mkF m pc Ls [])) :=
  own_ret X hlk hG (fun _ => rfl) (fun fs hr => X.returnOut hx hret hd hr) hc hs hq
variable {Z : State} {a0 : Array Value} {h : Heap}
theorem own_getF (X : Stand p l e R s m args below meth c T locs cells slots) (hx : p.tables.exec = Jvm.exec) (hZ : Z.Warmed39 s.vm) {own R0 O n d : String} {index : Nat} (hown : s.vm.findClass own = some m.cls) (w : (Cond.fieldLink own index R0 n d).before a0 Z = true) (via : Via Z R0 O n d) (eT : T.heap = h) {a : Addr} {v : Value} (F : Fld Z h a O n d v) (hd : decode c.code pc = .ok (.getfield index, 3)) (pc' : Nat) (hp : pc + 3 = pc')
    (k : ∀ T' : State, Stand p l e R s m args below meth c T' locs cells slots → T'.heap = h → own_Go p e below G (T'.setTop (mkF m pc' Ls (v :: rest)))) : own_Go p e below G (T.setTop (mkF m pc Ls (.ref a :: rest))) := by
  subst hp
  obtain ⟨T', X', e', st⟩ := getF X hx hZ hown (host := "") (Or.inl w) via eT F (g := mkF m pc Ls (.ref a :: rest)) rfl rfl hd
  exact own_go st (k T' X' e')
theorem own_putF (X : Stand p l e R s m args below meth c T locs cells slots) (hx : p.tables.exec = Jvm.exec) (hZ : Z.Warmed39 s.vm) {own R0 O n d C : String} {index kk : Nat} {ty : FieldType} (hown : s.vm.findClass own = some m.cls) (w : (Cond.fieldLink own index R0 n d).before a0 Z = true) (via : Via Z R0 O n d) (eT : T.heap = h) {a : Addr} {v v' old : Value} (F : Fld Z h a O n d old) (E : Exa Z h a C) (L : (Cond.lays C O n d).before a0 Z = true ∨ ((Cond.laysFinal C O n d).before a0 Z = true ∧ own = O ∧ meth.name = "<init>")) (wi : (Cond.instantiable C kk).before a0 Z = true) (hty : parseFieldDescriptor d = some ty) (hn : narrow ty v = v') (hf : fits ty v' = true) (hd : decode c.code pc = .ok (.putfield index, 3)) (pc' : Nat) (hp : pc + 3 = pc')
    (k : ∀ (T' : State) (h' : Heap), Stand p l e R s m args below meth c T' (locs ++ [⟨a, Jvm.RoadKit.slotOf Z O n d⟩]) cells slots → T'.heap = h' → Wr h h' a (Jvm.RoadKit.slotOf Z O n d) v' → own_Go p e below G (T'.setTop (mkF m pc' Ls rest))) : own_Go p e below G (T.setTop (mkF m pc Ls (v :: .ref a :: rest))) := by
  subst hp
  obtain ⟨T', h', X', e', W, st⟩ := putFN X hx hZ hown w via eT F E L wi hty hn hf (g := mkF m pc Ls (v :: .ref a :: rest)) rfl rfl hd
  exact own_go st (k T' h' X' e' W)
theorem own_newO (X : Stand p l e R s m args below meth c T locs cells slots) (hx : p.tables.exec = Jvm.exec) (hZ : Z.Warmed39 s.vm) {own C : String} {index n : Nat} (hown : s.vm.findClass own = some m.cls) (w : (Cond.classLink own index C).before a0 Z = true) (wi : (Cond.instantiable C n).before a0 Z = true) (wz : (Cond.initialized C).before a0 Z = true) (eT : T.heap = h) (hd : decode c.code pc = .ok (.new index, 3)) (hc : cells + 1 ≤ R.cells) (hl : slots + n ≤ R.slots) (pc' : Nat) (hp : pc + 3 = pc')
    (k : ∀ (T' : State) (h' : Heap) (a' : Addr), a' = h.size → Stand p l e R s m args below meth c T' locs (cells + 1) (slots + n) → T'.heap = h' → Ext h h' → Exa Z h' a' C → (∀ {O nm d : String} {ty : FieldType}, Laid Z a0 C O nm d → parseFieldDescriptor d = some ty → Fld Z h' a' O nm d (defaultValue ty)) → own_Go p e below G (T'.setTop (mkF m pc' Ls (.ref a' :: rest)))) : own_Go p e below G (T.setTop (mkF m pc Ls rest)) := by
  subst hp
  obtain ⟨T', h', X', e', E', A', D', -, st⟩ := newO X hx hZ hown w wi wz eT (g := mkF m pc Ls rest) rfl hd hc hl
  exact own_go st (k T' h' _ rfl X' e' E' A' D')
theorem own_initO (X : Stand p l e R s m args below meth c T locs cells slots) (hx : p.tables.exec = Jvm.exec) (hZ : Z.Warmed39 s.vm) {own : String} {idx : Nat} (hown : s.vm.findClass own = some m.cls) (w1 : (Cond.methodLink own idx Lib.objectInit).before a0 Z = true) (w2 : (Cond.instanceMethod Lib.objectInit).before a0 Z = true) (w3 : (Cond.code Lib.objectInit object_method_1_code 1 none).before a0 Z = true) (eT : T.heap = h) (hsize : Ls.size = c.maxLocals) {a : Addr} (hd : decode c.code pc = .ok (.invokespecial idx, 3)) (hf : 1 ≤ R.frames) (W : Nat) (hW : (rest.map fun v => v.category).sum ≤ W) (hl : W + 12 ≤ R.locals) (pc' : Nat) (hp : pc + 3 = pc')
    (k : ∀ T' : State, Stand p l e R s m args below meth c T' locs cells slots → T'.heap = h → own_Go p e below G (T'.setTop (mkF m pc' Ls rest))) : own_Go p e below G (T.setTop (mkF m pc Ls (.ref a :: rest))) := by
  subst hp
  obtain ⟨T', X', e', st⟩ := initO X hx hZ hown w1 w2 w3 eT (g := mkF m pc Ls (.ref a :: rest)) rfl hsize rfl hd hf (W := W) (by show 2 * 0 + _ ≤ W; rw [Nat.mul_zero, Nat.zero_add]; exact hW) hl
  exact own_go st (k T' X' e')
theorem own_callS {bytes : ByteArray} {maxL : Nat} {ret : Option FieldType} {rm : Room} {y : MethodName} {argsL : List Value} {Q : Option Value → Heap → List Loc → Prop} (X : Stand p l e R s m args below meth c T locs cells slots) (hx : p.tables.exec = Jvm.exec) (hZ : Z.Warmed39 s.vm) {own : String} {index : Nat} (hown : s.vm.findClass own = some m.cls) (w1 : (Cond.methodLink own index y).before a0 Z = true) (w2 : (Cond.static y).before a0 Z = true) (w3 : (Cond.initialized y.cls).before a0 Z = true) (w4 : (Cond.code y bytes maxL ret).before a0 Z = true) (hy : y.cls ≠ "java/lang/invoke/MethodHandle" ∧ y.cls ≠ "java/lang/invoke/VarHandle") (eT : T.heap = h)
    (hM : MetFree l y (head1 [Cond.code y bytes maxL ret] rm) (fun a U => a = argsL.toArray ∧ Z.Warmed39 U.vm ∧ U.heap = h) (fun _ _ _ _ _ => True) (fun _ U o U' => ∃ v L, o = .returned v ∧ Q v U'.heap L ∧ FrameEnd U o U' L rm.cells rm.slots))
    (hsize : Ls.size = c.maxLocals) {ps : List FieldType} {rt : Option FieldType} (hdesc : parseMethodDescriptor y.desc = some ⟨ps, rt⟩) (hlen : argsL.length = ps.length) {st : List Value} (hst : st = argsL.reverse ++ rest) (hd : decode c.code pc = .ok (.invokestatic index, 3)) (W : Nat) (hW : (rest.map fun v => v.category).sum ≤ W) (hf : rm.frames + 1 ≤ R.frames) (hl : W + (maxL + 11) + rm.locals ≤ R.locals) (hc : cells + rm.cells ≤ R.cells) (hs : slots + rm.slots ≤ R.slots) (pc' : Nat) (hp : pc + 3 = pc')
    (k : ∀ (T' : State) (L : List Loc) (v : Option Value), Stand p l e R s m args below meth c T' (locs ++ L) (cells + rm.cells) (slots + rm.slots) → Q v T'.heap L → own_Go p e below G (T'.setTop (mkF m pc' Ls (v.toList ++ rest)))) : own_Go p e below G (T.setTop (mkF m pc Ls st)) := by
  subst hp hst
  obtain ⟨v, _, ⟨T', L', k', n'⟩, -, X', ⟨Lc, hQ, l', y', z'⟩, st⟩ := Jvm.LawKit.callS X hx hown (mvT hZ w1) (mvT hZ w2) (mvT hZ w3) (mvT hZ w4) hy (backOf (W := W) hM hZ w4 w3 hf hl) (g := mkF m pc Ls (argsL.reverse ++ rest)) rfl hsize (argsL := argsL) (rest := rest) (lenOf hdesc hlen) rfl (by show 2 * 0 + _ ≤ W; rw [Nat.mul_zero, Nat.zero_add]; exact hW) hd (fun _ _ => ⟨rfl, eT, hc, hs⟩)
  dsimp only [Pt.U, Pt.locs, Pt.cells, Pt.slots] at X' l' y' z' st hQ
  subst l' y' z'
  exact own_go st (k T' Lc v X' hQ)
theorem own_callI {bytes : ByteArray} {maxL : Nat} {rm : Room} {y : MethodName} {argsL : List Value} {Q : Option Value → Heap → List Loc → Prop} (X : Stand p l e R s m args below meth c T locs cells slots) (hx : p.tables.exec = Jvm.exec) (hZ : Z.Warmed39 s.vm) (hy1 : y.name = "<init>") {own : String} {index : Nat} (hown : s.vm.findClass own = some m.cls) (w1 : (Cond.methodLink own index y).before a0 Z = true) (w2 : (Cond.instanceMethod y).before a0 Z = true) (w3 : (Cond.initialized y.cls).before a0 Z = true) (w4 : (Cond.code y bytes maxL none).before a0 Z = true) (hy : y.cls ≠ "java/lang/invoke/MethodHandle" ∧ y.cls ≠ "java/lang/invoke/VarHandle") (eT : T.heap = h) {b : Addr}
    (hM : MetFree l y (head1 [Cond.code y bytes maxL none] rm) (fun a U => a = (.ref b :: argsL).toArray ∧ Z.Warmed39 U.vm ∧ U.heap = h) (fun _ _ _ _ _ => True) (fun _ U o U' => ∃ v L, o = .returned v ∧ Q v U'.heap L ∧ FrameEnd U o U' L rm.cells rm.slots))
    (hsize : Ls.size = c.maxLocals) {ps : List FieldType} {rt : Option FieldType} (hdesc : parseMethodDescriptor y.desc = some ⟨ps, rt⟩) (hlen : argsL.length = ps.length) {st : List Value} (hst : st = argsL.reverse ++ .ref b :: rest) (hd : decode c.code pc = .ok (.invokespecial index, 3)) (W : Nat) (hW : (rest.map fun v => v.category).sum ≤ W) (hf : rm.frames + 1 ≤ R.frames) (hl : W + (maxL + 11) + rm.locals ≤ R.locals) (hc : cells + rm.cells ≤ R.cells) (hs : slots + rm.slots ≤ R.slots) (pc' : Nat) (hp : pc + 3 = pc')
    (k : ∀ (T' : State) (L : List Loc) (v : Option Value), Stand p l e R s m args below meth c T' (locs ++ L) (cells + rm.cells) (slots + rm.slots) → Q v T'.heap L → own_Go p e below G (T'.setTop (mkF m pc' Ls (v.toList ++ rest)))) : own_Go p e below G (T.setTop (mkF m pc Ls st)) := by
  subst hp hst
  obtain ⟨v, _, ⟨T', L', k', n'⟩, -, X', ⟨Lc, hQ, l', y', z'⟩, st⟩ := X.specialBack hx hy1 hown (mvT hZ w1) (mvT hZ w2) (mvT hZ w4) hy (backOf (W := W) hM hZ w4 w3 hf hl) (g := mkF m pc Ls (argsL.reverse ++ .ref b :: rest)) rfl hsize (Steps.refl _) (a := b) (argsL := argsL) (rest := rest) (lenOf hdesc hlen) rfl (by show 2 * 0 + _ ≤ W; rw [Nat.mul_zero, Nat.zero_add]; exact hW) hd (fun _ _ => ⟨rfl, eT, hc, hs⟩)
  dsimp only [Pt.U, Pt.locs, Pt.cells, Pt.slots] at X' l' y' z' st hQ
  subst l' y' z'
  exact own_go (fun t q => st.trans q) (k T' Lc v X' hQ)
theorem own_callV {bytes : ByteArray} {maxL : Nat} {ret : Option FieldType} {rm : Room} {y z : MethodName} {argsL : List Value} {Q : Option Value → Heap → List Loc → Prop} (X : Stand p l e R s m args below meth c T locs cells slots) (hx : p.tables.exec = Jvm.exec) (hZ : Z.Warmed39 s.vm) {own C : String} {index : Nat} (hown : s.vm.findClass own = some m.cls) (w1 : (Cond.methodLink own index y).before a0 Z = true) (w2 : (Cond.declares y).before a0 Z = true) (w5 : (Cond.selects C y z).before a0 Z = true) (nf : NotFace s y) (w6 : (Cond.instanceMethod z).before a0 Z = true) (w3 : (Cond.initialized z.cls).before a0 Z = true) (w4 : (Cond.code z bytes maxL ret).before a0 Z = true) (hy : y.cls ≠ "java/lang/invoke/MethodHandle" ∧ y.cls ≠ "java/lang/invoke/VarHandle") (eT : T.heap = h) {b : Addr} (E : Exa Z h b C)
    (hM : MetFree l z (head1 [Cond.code z bytes maxL ret] rm) (fun a U => a = (.ref b :: argsL).toArray ∧ Z.Warmed39 U.vm ∧ U.heap = h) (fun _ _ _ _ _ => True) (fun _ U o U' => ∃ v L, o = .returned v ∧ Q v U'.heap L ∧ FrameEnd U o U' L rm.cells rm.slots))
    (hsize : Ls.size = c.maxLocals) {ps : List FieldType} {rt : Option FieldType} (hdesc : parseMethodDescriptor y.desc = some ⟨ps, rt⟩) (hlen : argsL.length = ps.length) {st : List Value} (hst : st = argsL.reverse ++ .ref b :: rest) (hd : decode c.code pc = .ok (.invokevirtual index, 3)) (W : Nat) (hW : (rest.map fun v => v.category).sum ≤ W) (hf : rm.frames + 1 ≤ R.frames) (hl : W + (maxL + 11) + rm.locals ≤ R.locals) (hc : cells + rm.cells ≤ R.cells) (hs : slots + rm.slots ≤ R.slots) (pc' : Nat) (hp : pc + 3 = pc')
    (k : ∀ (T' : State) (L : List Loc) (v : Option Value), Stand p l e R s m args below meth c T' (locs ++ L) (cells + rm.cells) (slots + rm.slots) → Q v T'.heap L → own_Go p e below G (T'.setTop (mkF m pc' Ls (v.toList ++ rest)))) : own_Go p e below G (T.setTop (mkF m pc Ls st)) := by
  subst hp hst
  obtain ⟨cq, kq, qa, qb, qc⟩ := isOf hZ eT E
  obtain ⟨v, _, ⟨T', L', k', n'⟩, -, X', ⟨Lc, hQ, l', y', z'⟩, st⟩ := X.virtualBack hx (y := y) (z := z) hown (mvT hZ w1) (mvT hZ w2) nf (mvT hZ w5) (mvT hZ w6) hy (backOf (W := W) hM hZ w4 w3 hf hl) qa qc (g := mkF m pc Ls (argsL.reverse ++ .ref b :: rest)) rfl hsize (Steps.refl _) (argsL := argsL) (rest := rest) (lenOf hdesc hlen) rfl (by show 2 * 0 + _ ≤ W; rw [Nat.mul_zero, Nat.zero_add]; exact hW) hd (fun _ _ => ⟨rfl, eT, hc, hs⟩)
  dsimp only [Pt.U, Pt.locs, Pt.cells, Pt.slots] at X' l' y' z' st hQ
  subst l' y' z'
  exact own_go (fun t q => st.trans q) (k T' Lc v X' hQ)
def own_A {α : Type} (ty : FieldType) (f : α → Value) (Z : State) (h : Heap) (a : Addr) (L : List α) : Prop := ∃ cl : Cell, Arr Z h a cl ty ∧ cl.slots = (L.map f).toArray ∧ L.length < 2147483648
section OwnArr
variable {α : Type} {ty : FieldType} {f : α → Value} {h' : Heap} {a b : Addr} {L : List α}
theorem own_A.lt (F : own_A ty f Z h a L) : a < h.size := by obtain ⟨cl, A, -⟩ := F; exact A.lt
theorem own_A.ext (F : own_A ty f Z h a L) (E : Ext h h') : own_A ty f Z h' a L := by obtain ⟨cl, A, r⟩ := F; exact ⟨cl, A.ext E, r⟩
theorem own_A.other {sl : Nat} {v : Value} (F : own_A ty f Z h b L) (W : Wr h h' a sl v) (q : b ≠ a) : own_A ty f Z h' b L := by obtain ⟨cl, A, r⟩ := F; exact ⟨cl, A.other W q, r⟩
theorem own_A.keep {ws : List Addr} (F : own_A ty f Z h a L) (K : Keep h h' ws) (q : a ∉ ws) : own_A ty f Z h' a L := by obtain ⟨cl, A, r⟩ := F; exact ⟨cl, ⟨K.2.1 a cl A.1 q, A.2⟩, r⟩
theorem own_A.len (F : own_A ty f Z h a L) : L.length < 2147483648 := by obtain ⟨cl, A, -, r⟩ := F; exact r
theorem own_A.set {i : Nat} {x : α} (F : own_A ty f Z h a L) (W : Wr h h' a i (f x)) : own_A ty f Z h' a (L.set i x) := by
  obtain ⟨cl, A, r, r'⟩ := F
  refine ⟨_, A.same W, ?_, by simpa using r'⟩
  show cl.slots.setIfInBounds i (f x) = _
  rw [r, List.map_set]; simp
theorem own_idx {j : Int32} {i n : Nat} (hj : j = Int32.ofNat i) (hi : i < n) (hn : n < 2147483648) : ¬ (j < 0 ∨ n ≤ j.toNatClampNeg) ∧ j.toNatClampNeg = i := by
  subst hj
  have q : (Int32.ofNat i).toInt = i := Int32.toInt_ofNat_of_lt (by omega)
  have q2 : (Int32.ofNat i).toNatClampNeg = i := by rw [Int32.toNatClampNeg, q]; rfl
  refine ⟨fun z => z.elim (fun z => ?_) fun z => by omega, q2⟩
  rw [Int32.lt_iff_toInt_lt, q, show (0 : Int32).toInt = 0 from rfl] at z; omega
theorem own_A.new {k : ClassId} {n : Int32} {d : α} (hd : f d = defaultValue ty) (A : Arr Z h a (newA k ty n) ty) (i : Nat) (hn : n = Int32.ofNat i) (hi : i < 2147483648) : own_A ty f Z h a (List.replicate i d) := by
  refine ⟨_, A, ?_, by simpa using hi⟩
  have q := (own_idx hn (Nat.lt_succ_self i) (n := i + 1))
  have q2 : n.toNatClampNeg = i := by
    subst hn
    rw [Int32.toNatClampNeg, Int32.toInt_ofNat_of_lt (by omega)]; rfl
  simp [newA, q2, hd]
end OwnArr
theorem own_iaload (X : Stand p l e R s m args below meth c T locs cells slots) (hx : p.tables.exec = Jvm.exec) (hZ : Z.Warmed39 s.vm) (eT : T.heap = h) {a : Addr} {L : List Int32} (V : own_A .int Value.int Z h a L) {j : Int32} (i : Nat) (hj : j = Int32.ofNat i) (v : Int32) (hv : L[i]? = some v) (hd : decode c.code pc = .ok (.iaload, 1)) (pc' : Nat) (hp : pc + 1 = pc') (k : own_Go p e below G (T.setTop (mkF m pc' Ls (Value.int v :: rest)))) : own_Go p e below G (T.setTop (mkF m pc Ls (.int j :: .ref a :: rest))) := by
  subst hp
  obtain ⟨cl, A, r, r'⟩ := V
  have hi : i < L.length := (List.getElem?_eq_some_iff.mp hv).1
  obtain ⟨q1, q2⟩ := own_idx hj hi r'
  exact own_go (X.iaload hx (j := j) (v := Value.int v) (by rw [eT]; exact A.1) (State.isArrayOf_alike hZ.alike A.2.1) A.2.2 (by rw [r]; simpa using q1) (by rw [r, q2]; simp [hv]) (g := mkF m pc Ls (.int j :: .ref a :: rest)) rfl rfl hd) k
theorem own_laload (X : Stand p l e R s m args below meth c T locs cells slots) (hx : p.tables.exec = Jvm.exec) (hZ : Z.Warmed39 s.vm) (eT : T.heap = h) {a : Addr} {L : List Int64} (V : own_A .long Value.long Z h a L) {j : Int32} (i : Nat) (hj : j = Int32.ofNat i) (v : Int64) (hv : L[i]? = some v) (hd : decode c.code pc = .ok (.laload, 1)) (pc' : Nat) (hp : pc + 1 = pc') (k : own_Go p e below G (T.setTop (mkF m pc' Ls (Value.long v :: rest)))) : own_Go p e below G (T.setTop (mkF m pc Ls (.int j :: .ref a :: rest))) := by
  subst hp
  obtain ⟨cl, A, r, r'⟩ := V
  have hi : i < L.length := (List.getElem?_eq_some_iff.mp hv).1
  obtain ⟨q1, q2⟩ := own_idx hj hi r'
  exact own_go (X.laload hx (j := j) (v := Value.long v) (by rw [eT]; exact A.1) (State.isArrayOf_alike hZ.alike A.2.1) A.2.2 (by rw [r]; simpa using q1) (by rw [r, q2]; simp [hv]) (g := mkF m pc Ls (.int j :: .ref a :: rest)) rfl rfl hd) k
theorem own_baload (X : Stand p l e R s m args below meth c T locs cells slots) (hx : p.tables.exec = Jvm.exec) (hZ : Z.Warmed39 s.vm) (eT : T.heap = h) {a : Addr} {L : List Int32} (V : own_A .byte Value.int Z h a L) {j : Int32} (i : Nat) (hj : j = Int32.ofNat i) (v : Int32) (hv : L[i]? = some v) (hd : decode c.code pc = .ok (.baload, 1)) (pc' : Nat) (hp : pc + 1 = pc') (k : own_Go p e below G (T.setTop (mkF m pc' Ls (Value.int v :: rest)))) : own_Go p e below G (T.setTop (mkF m pc Ls (.int j :: .ref a :: rest))) := by
  subst hp
  obtain ⟨cl, A, r, r'⟩ := V
  have hi : i < L.length := (List.getElem?_eq_some_iff.mp hv).1
  obtain ⟨q1, q2⟩ := own_idx hj hi r'
  exact own_go (X.baloadBytes hx (j := j) (v := Value.int v) (by rw [eT]; exact A.1) (State.isArrayOf_alike hZ.alike A.2.1) A.2.2 (by rw [r]; simpa using q1) (by rw [r, q2]; simp [hv]) (g := mkF m pc Ls (.int j :: .ref a :: rest)) rfl rfl hd) k
theorem own_iastore (X : Stand p l e R s m args below meth c T locs cells slots) (hx : p.tables.exec = Jvm.exec) (hZ : Z.Warmed39 s.vm) (eT : T.heap = h) {a : Addr} {L : List Int32} (V : own_A .int Value.int Z h a L) {j : Int32} {x : Int32} (i : Nat) (hj : j = Int32.ofNat i) (hi : i < L.length) (hd : decode c.code pc = .ok (.iastore, 1)) (pc' : Nat) (hp : pc + 1 = pc')
    (k : ∀ (T' : State) (h' : Heap), Stand p l e R s m args below meth c T' (locs ++ [⟨a, j.toNatClampNeg⟩]) cells slots → T'.heap = h' → Wr h h' a i (Value.int x) → own_A .int Value.int Z h' a (L.set i x) → own_Go p e below G (T'.setTop (mkF m pc' Ls rest))) : own_Go p e below G (T.setTop (mkF m pc Ls (Value.int x :: .int j :: .ref a :: rest))) := by
  subst hp
  have V' := V
  obtain ⟨cl, A, r, r'⟩ := V'
  obtain ⟨q1, q2⟩ := own_idx hj hi r'
  obtain ⟨T', h', X', e', W, st⟩ := stI X hx hZ eT A (j := j) (x := x) (by rw [r]; simpa using q1) (g := mkF m pc Ls (Value.int x :: .int j :: .ref a :: rest)) rfl rfl hd
  rw [q2] at W
  exact own_go st (k T' h' X' e' W (V.set W))
theorem own_lastore (X : Stand p l e R s m args below meth c T locs cells slots) (hx : p.tables.exec = Jvm.exec) (hZ : Z.Warmed39 s.vm) (eT : T.heap = h) {a : Addr} {L : List Int64} (V : own_A .long Value.long Z h a L) {j : Int32} {x : Int64} (i : Nat) (hj : j = Int32.ofNat i) (hi : i < L.length) (hd : decode c.code pc = .ok (.lastore, 1)) (pc' : Nat) (hp : pc + 1 = pc')
    (k : ∀ (T' : State) (h' : Heap), Stand p l e R s m args below meth c T' (locs ++ [⟨a, j.toNatClampNeg⟩]) cells slots → T'.heap = h' → Wr h h' a i (Value.long x) → own_A .long Value.long Z h' a (L.set i x) → own_Go p e below G (T'.setTop (mkF m pc' Ls rest))) : own_Go p e below G (T.setTop (mkF m pc Ls (Value.long x :: .int j :: .ref a :: rest))) := by
  subst hp
  have V' := V
  obtain ⟨cl, A, r, r'⟩ := V'
  obtain ⟨q1, q2⟩ := own_idx hj hi r'
  obtain ⟨T', h', X', e', W, st⟩ := stJ X hx hZ eT A (j := j) (x := x) (by rw [r]; simpa using q1) (g := mkF m pc Ls (Value.long x :: .int j :: .ref a :: rest)) rfl rfl hd
  rw [q2] at W
  exact own_go st (k T' h' X' e' W (V.set W))
theorem own_bastore (X : Stand p l e R s m args below meth c T locs cells slots) (hx : p.tables.exec = Jvm.exec) (hZ : Z.Warmed39 s.vm) (eT : T.heap = h) {a : Addr} {L : List Int32} (V : own_A .byte Value.int Z h a L) {j : Int32} {x : Int32} (i : Nat) (hj : j = Int32.ofNat i) (hi : i < L.length) (hd : decode c.code pc = .ok (.bastore, 1)) (pc' : Nat) (hp : pc + 1 = pc')
    (k : ∀ (T' : State) (h' : Heap), Stand p l e R s m args below meth c T' (locs ++ [⟨a, j.toNatClampNeg⟩]) cells slots → T'.heap = h' → Wr h h' a i (Value.int (x.toInt8.toInt32)) → own_A .byte Value.int Z h' a (L.set i (x.toInt8.toInt32)) → own_Go p e below G (T'.setTop (mkF m pc' Ls rest))) : own_Go p e below G (T.setTop (mkF m pc Ls (Value.int x :: .int j :: .ref a :: rest))) := by
  subst hp
  have V' := V
  obtain ⟨cl, A, r, r'⟩ := V'
  obtain ⟨q1, q2⟩ := own_idx hj hi r'
  obtain ⟨T', h', X', e', W, st⟩ := stB X hx hZ eT A (j := j) (x := x) (by rw [r]; simpa using q1) (g := mkF m pc Ls (Value.int x :: .int j :: .ref a :: rest)) rfl rfl hd
  rw [q2] at W
  exact own_go st (k T' h' X' e' W (V.set W))
theorem own_newI (X : Stand p l e R s m args below meth c T locs cells slots) (hx : p.tables.exec = Jvm.exec) (hZ : Z.Warmed39 s.vm) (w : (Cond.arrayClass .int).before a0 Z = true) (eT : T.heap = h) {n : Int32} (hd : decode c.code pc = .ok (.newarray .int, 2)) (i : Nat) (hn : n = Int32.ofNat i) (cap : Nat) (hcap : i ≤ cap) (hb : cap * 8 ≤ 536870912) (hc : cells + 1 ≤ R.cells) (hl : slots + cap ≤ R.slots) (pc' : Nat) (hp : pc + 2 = pc')
    (k : ∀ (T' : State) (h' : Heap) (a' : Addr), a' = h.size → Stand p l e R s m args below meth c T' locs (cells + 1) (slots + cap) → T'.heap = h' → Ext h h' → own_A .int Value.int Z h' a' (List.replicate i (0 : Int32)) → own_Go p e below G (T'.setTop (mkF m pc' Ls (.ref a' :: rest)))) : own_Go p e below G (T.setTop (mkF m pc Ls (.int n :: rest))) := by
  subst hp
  have hi : i < 2147483648 := by omega
  obtain ⟨q1, q2⟩ := own_idx hn (Nat.lt_succ_self i) (n := i + 1) (by omega)
  obtain ⟨T', h', cA, X', e', E', A', st⟩ := newP X hx hZ (aty := .int) w eT (g := mkF m pc Ls (.int n :: rest)) rfl hd (n := n) (rest := rest) rfl (fun z => q1 (Or.inl z)) (cap := cap) (by rw [q2]; exact hcap) hb hc hl
  exact own_go st (k T' h' _ rfl X' e' E' (own_A.new (f := Value.int) (d := 0) rfl A' i hn hi))
theorem own_newJ (X : Stand p l e R s m args below meth c T locs cells slots) (hx : p.tables.exec = Jvm.exec) (hZ : Z.Warmed39 s.vm) (w : (Cond.arrayClass .long).before a0 Z = true) (eT : T.heap = h) {n : Int32} (hd : decode c.code pc = .ok (.newarray .long, 2)) (i : Nat) (hn : n = Int32.ofNat i) (cap : Nat) (hcap : i ≤ cap) (hb : cap * 8 ≤ 536870912) (hc : cells + 1 ≤ R.cells) (hl : slots + cap ≤ R.slots) (pc' : Nat) (hp : pc + 2 = pc')
    (k : ∀ (T' : State) (h' : Heap) (a' : Addr), a' = h.size → Stand p l e R s m args below meth c T' locs (cells + 1) (slots + cap) → T'.heap = h' → Ext h h' → own_A .long Value.long Z h' a' (List.replicate i (0 : Int64)) → own_Go p e below G (T'.setTop (mkF m pc' Ls (.ref a' :: rest)))) : own_Go p e below G (T.setTop (mkF m pc Ls (.int n :: rest))) := by
  subst hp
  have hi : i < 2147483648 := by omega
  obtain ⟨q1, q2⟩ := own_idx hn (Nat.lt_succ_self i) (n := i + 1) (by omega)
  obtain ⟨T', h', cA, X', e', E', A', st⟩ := newP X hx hZ (aty := .long) w eT (g := mkF m pc Ls (.int n :: rest)) rfl hd (n := n) (rest := rest) rfl (fun z => q1 (Or.inl z)) (cap := cap) (by rw [q2]; exact hcap) hb hc hl
  exact own_go st (k T' h' _ rfl X' e' E' (own_A.new (f := Value.long) (d := 0) rfl A' i hn hi))
theorem own_newB (X : Stand p l e R s m args below meth c T locs cells slots) (hx : p.tables.exec = Jvm.exec) (hZ : Z.Warmed39 s.vm) (w : (Cond.arrayClass .byte).before a0 Z = true) (eT : T.heap = h) {n : Int32} (hd : decode c.code pc = .ok (.newarray .byte, 2)) (i : Nat) (hn : n = Int32.ofNat i) (cap : Nat) (hcap : i ≤ cap) (hb : cap * 8 ≤ 536870912) (hc : cells + 1 ≤ R.cells) (hl : slots + cap ≤ R.slots) (pc' : Nat) (hp : pc + 2 = pc')
    (k : ∀ (T' : State) (h' : Heap) (a' : Addr), a' = h.size → Stand p l e R s m args below meth c T' locs (cells + 1) (slots + cap) → T'.heap = h' → Ext h h' → own_A .byte Value.int Z h' a' (List.replicate i (0 : Int32)) → own_Go p e below G (T'.setTop (mkF m pc' Ls (.ref a' :: rest)))) : own_Go p e below G (T.setTop (mkF m pc Ls (.int n :: rest))) := by
  subst hp
  have hi : i < 2147483648 := by omega
  obtain ⟨q1, q2⟩ := own_idx hn (Nat.lt_succ_self i) (n := i + 1) (by omega)
  obtain ⟨T', h', cA, X', e', E', A', st⟩ := newP X hx hZ (aty := .byte) w eT (g := mkF m pc Ls (.int n :: rest)) rfl hd (n := n) (rest := rest) rfl (fun z => q1 (Or.inl z)) (cap := cap) (by rw [q2]; exact hcap) hb hc hl
  exact own_go st (k T' h' _ rfl X' e' E' (own_A.new (f := Value.int) (d := 0) rfl A' i hn hi))
theorem own_aaload (X : Stand p l e R s m args below meth c T locs cells slots) (hx : p.tables.exec = Jvm.exec) (hZ : Z.Warmed39 s.vm) (eT : T.heap = h) {a : Addr} {cl : Cell} {ty : FieldType} (A : Arr Z h a cl ty) (hty : ty.isReference = true) {j : Int32} {v : Value} (hin : ¬ (j < 0 ∨ cl.slots.size ≤ j.toNatClampNeg)) (hv : cl.slots[j.toNatClampNeg]? = some v) (hd : decode c.code pc = .ok (.aaload, 1)) (pc' : Nat) (hp : pc + 1 = pc') (k : own_Go p e below G (T.setTop (mkF m pc' Ls (v :: rest)))) : own_Go p e below G (T.setTop (mkF m pc Ls (.int j :: .ref a :: rest))) := by
  subst hp
  exact own_go (X.aaload hx (j := j) (v := v) (by rw [eT]; exact A.1) (State.isArrayOf_alike hZ.alike A.2.1) hty A.2.2 hin hv (g := mkF m pc Ls (.int j :: .ref a :: rest)) rfl rfl hd) k
theorem own_callU {bytes : ByteArray} {maxL : Nat} {ret : Option FieldType} {rm : Room} {x z : MethodName} {owner : String} {argsL : List Value} {Q : Option Value → Heap → List Loc → Prop} (X : Stand p l e R s m args below meth c T locs cells slots) (hx : p.tables.exec = Jvm.exec) (hZ : Z.Warmed39 s.vm) {own C : String} {index : Nat} (hown : s.vm.findClass own = some m.cls) (w1 : (Cond.methodLink own index x).before a0 Z = true) (w2 : (Cond.sameMethod x.cls owner x.name x.desc).before a0 Z = true) (w7 : (Cond.declares ⟨owner, x.name, x.desc⟩).before a0 Z = true) (w5 : (Cond.selects C x z).before a0 Z = true) (w6 : (Cond.instanceMethod z).before a0 Z = true) (w3 : (Cond.initialized z.cls).before a0 Z = true) (w4 : (Cond.code z bytes maxL ret).before a0 Z = true) (hy : owner ≠ "java/lang/invoke/MethodHandle" ∧ owner ≠ "java/lang/invoke/VarHandle") (eT : T.heap = h) {b : Addr} (E : Exa Z h b C)
    (hM : MetFree l z (head1 [Cond.code z bytes maxL ret] rm) (fun a U => a = (.ref b :: argsL).toArray ∧ Z.Warmed39 U.vm ∧ U.heap = h) (fun _ _ _ _ _ => True) (fun _ U o U' => ∃ v L, o = .returned v ∧ Q v U'.heap L ∧ FrameEnd U o U' L rm.cells rm.slots))
    (hsize : Ls.size = c.maxLocals) {ps : List FieldType} {rt : Option FieldType} (hdesc : parseMethodDescriptor x.desc = some ⟨ps, rt⟩) (hlen : argsL.length = ps.length) {st : List Value} (hst : st = argsL.reverse ++ .ref b :: rest) (hd : decode c.code pc = .ok (.invokevirtual index, 3)) (W : Nat) (hW : (rest.map fun v => v.category).sum ≤ W) (hf : rm.frames + 1 ≤ R.frames) (hl : W + (maxL + 11) + rm.locals ≤ R.locals) (hc : cells + rm.cells ≤ R.cells) (hs : slots + rm.slots ≤ R.slots) (pc' : Nat) (hp : pc + 3 = pc')
    (k : ∀ (T' : State) (L : List Loc) (v : Option Value), Stand p l e R s m args below meth c T' (locs ++ L) (cells + rm.cells) (slots + rm.slots) → Q v T'.heap L → own_Go p e below G (T'.setTop (mkF m pc' Ls (v.toList ++ rest)))) : own_Go p e below G (T.setTop (mkF m pc Ls st)) := by
  subst hp hst
  obtain ⟨cq, kq, qa, qb, qc⟩ := isOf hZ eT E
  obtain ⟨v, _, ⟨T', L', k', n'⟩, -, X', ⟨Lc, hQ, l', y', z'⟩, st⟩ := X.virtualBackUp hx (x := x) (y := z) hown (mvT hZ w1) (mvT hZ w2) (mvT hZ w7) hy (mvT hZ w5) (mvT hZ w6) (backOf (W := W) hM hZ w4 w3 hf hl) qa qc (g := mkF m pc Ls (argsL.reverse ++ .ref b :: rest)) rfl hsize (Steps.refl _) (argsL := argsL) (rest := rest) (lenOf hdesc hlen) rfl (by show 2 * 0 + _ ≤ W; rw [Nat.mul_zero, Nat.zero_add]; exact hW) hd (fun _ _ => ⟨rfl, eT, hc, hs⟩)
  dsimp only [Pt.U, Pt.locs, Pt.cells, Pt.slots] at X' l' y' z' st hQ
  subst l' y' z'
  exact own_go (fun t q => st.trans q) (k T' Lc v X' hQ)
theorem own_niI {C : String} {n : Nat} (hZ : Z.Warmed39 s.vm) (w : (Cond.instantiable C n).before a0 Z = true) : ∃ c k, s.vm.findClass C = some c ∧ s.vm.classes[c]? = some k ∧ k.isInterface = false := by
  obtain ⟨t, kt, g1, g2, g3, g4, -⟩ := Cond.instantiable_spec (mvT hZ w (args := a0))
  exact ⟨t, kt, g1, g2, by cases hi : kt.isInterface <;> simp_all⟩
theorem own_niS {C : String} {y y' : MethodName} (hZ : Z.Warmed39 s.vm) (w : (Cond.selects C y y).before a0 Z = true) (w2 : (Cond.instanceMethod y).before a0 Z = true) (hcls : y.cls = y'.cls) : ∃ c k, s.vm.findClass y'.cls = some c ∧ s.vm.classes[c]? = some k ∧ k.isInterface = false := by
  obtain ⟨mk, methM, hnamed, -, -, -⟩ := Cond.instanceMethod_spec (mvT hZ w2 (args := a0))
  obtain ⟨kr, h1, h2⟩ := notFace_of_selects (args := a0) (mvT hZ w) mk hnamed
  exact ⟨mk.cls, kr, hcls ▸ findClass_of_methodNamed hnamed, h1, h2⟩
theorem own_nfS {y : MethodName} (ni : ∃ c k, s.vm.findClass y.cls = some c ∧ s.vm.classes[c]? = some k ∧ k.isInterface = false) : NotFace s y := fun r0 h0 => by
  obtain ⟨c, k, q1, q2, q3⟩ := ni
  cases q1.symm.trans (findClass_of_methodNamed h0)
  exact ⟨k, q2, q3⟩
theorem own_callP {bytes : ByteArray} {maxL : Nat} {ret : Option FieldType} {rm : Room} {y : MethodName} {argsL : List Value} {Q : Option Value → Heap → List Loc → Prop} (X : Stand p l e R s m args below meth c T locs cells slots) (hx : p.tables.exec = Jvm.exec) (hZ : Z.Warmed39 s.vm) {own C : String} {index : Nat} (hown : s.vm.findClass own = some m.cls) (w1 : (Cond.methodLink own index y).before a0 Z = true) (w2 : (Cond.instanceMethod y).before a0 Z = true) (w5 : (Cond.privateMethod y).before a0 Z = true) (hni : ∃ c k, s.vm.findClass y.cls = some c ∧ s.vm.classes[c]? = some k ∧ k.isInterface = false) (w3 : (Cond.initialized y.cls).before a0 Z = true) (w4 : (Cond.code y bytes maxL ret).before a0 Z = true) (hy : y.cls ≠ "java/lang/invoke/MethodHandle" ∧ y.cls ≠ "java/lang/invoke/VarHandle") (eT : T.heap = h) {b : Addr} (E : Exa Z h b C)
    (hM : MetFree l y (head1 [Cond.code y bytes maxL ret] rm) (fun a U => a = (.ref b :: argsL).toArray ∧ Z.Warmed39 U.vm ∧ U.heap = h) (fun _ _ _ _ _ => True) (fun _ U o U' => ∃ v L, o = .returned v ∧ Q v U'.heap L ∧ FrameEnd U o U' L rm.cells rm.slots))
    (hsize : Ls.size = c.maxLocals) {ps : List FieldType} {rt : Option FieldType} (hdesc : parseMethodDescriptor y.desc = some ⟨ps, rt⟩) (hlen : argsL.length = ps.length) {st : List Value} (hst : st = argsL.reverse ++ .ref b :: rest) (hd : decode c.code pc = .ok (.invokevirtual index, 3)) (W : Nat) (hW : (rest.map fun v => v.category).sum ≤ W) (hf : rm.frames + 1 ≤ R.frames) (hl : W + (maxL + 11) + rm.locals ≤ R.locals) (hc : cells + rm.cells ≤ R.cells) (hs : slots + rm.slots ≤ R.slots) (pc' : Nat) (hp : pc + 3 = pc')
    (k : ∀ (T' : State) (L : List Loc) (v : Option Value), Stand p l e R s m args below meth c T' (locs ++ L) (cells + rm.cells) (slots + rm.slots) → Q v T'.heap L → own_Go p e below G (T'.setTop (mkF m pc' Ls (v.toList ++ rest)))) : own_Go p e below G (T.setTop (mkF m pc Ls st)) := by
  subst hp hst
  obtain ⟨cell, hcell, hobj⟩ := E.cell
  obtain ⟨cq, kq, q1, q2, q3⟩ := hni
  have hpr := Cond.privateMethod_at (mvP hZ w5 (args := #[]))
  have hi := mvT hZ w2 (args := args)
  obtain ⟨v, _, ⟨T', L', k', n'⟩, -, X', ⟨Lc, hQ, l', y', z'⟩, st⟩ := X.privateBack hx (y := y) hown (mvT hZ w1) hi (selects_self_of_private q1 q2 q3 hpr hi hy) hpr (mvT hZ w4) hy (backOf (W := W) hM hZ w4 w3 hf hl) (g := mkF m pc Ls (argsL.reverse ++ .ref b :: rest)) rfl hsize (Steps.refl _) (a := b) (by rw [eT]; exact hcell) hobj (argsL := argsL) (rest := rest) (lenOf hdesc hlen) rfl (by show 2 * 0 + _ ≤ W; rw [Nat.mul_zero, Nat.zero_add]; exact hW) hd (fun _ _ => ⟨rfl, eT, hc, hs⟩)
  dsimp only [Pt.U, Pt.locs, Pt.cells, Pt.slots] at X' l' y' z' st hQ
  subst l' y' z'
  exact own_go (fun t q => st.trans q) (k T' Lc v X' hQ)
end OwnSteps
theorem own_w {Z : State} {a0 : Array Value} (hw : ∀ d ∈ tables_1, d.before a0 Z = true) (i : Nat) {d : Cond} (h : tables_1[i]? = some d) : d.before a0 Z = true := hw d (List.mem_of_getElem? h)
abbrev oc0 : String := "com/example/equitide/equitide/policy/backfilling/AvlTree"
abbrev oc1 : String := "com/example/equitide/equitide/policy/backfilling/PlannedEnds"
section OwnSn
variable {Z : State} {a0 : Array Value}
theorem sn_0 (hw : ∀ d ∈ tables_1, d.before a0 Z = true) : Jvm.RoadKit.slotOf Z oc0 "unused" "I" ≠ Jvm.RoadKit.slotOf Z oc0 "root" "I" := slot_ne (C := oc1) (Or.inl (own_w hw 26 rfl)) (Or.inl (own_w hw 15 rfl)) (by decide) (t := .int) (t' := .int) (by decide) (by decide)
theorem sn_1 (hw : ∀ d ∈ tables_1, d.before a0 Z = true) : Jvm.RoadKit.slotOf Z oc0 "held" "I" ≠ Jvm.RoadKit.slotOf Z oc0 "root" "I" := slot_ne (C := oc1) (Or.inl (own_w hw 69 rfl)) (Or.inl (own_w hw 15 rfl)) (by decide) (t := .int) (t' := .int) (by decide) (by decide)
theorem sn_2 (hw : ∀ d ∈ tables_1, d.before a0 Z = true) : Jvm.RoadKit.slotOf Z oc0 "path" "[I" ≠ Jvm.RoadKit.slotOf Z oc0 "root" "I" := slot_ne (C := oc1) (Or.inr (own_w hw 18 rfl)) (Or.inl (own_w hw 15 rfl)) (by decide) (t := (.array .int)) (t' := .int) (by decide) (by decide)
theorem sn_3 (hw : ∀ d ∈ tables_1, d.before a0 Z = true) : Jvm.RoadKit.slotOf Z oc0 "sides" "[I" ≠ Jvm.RoadKit.slotOf Z oc0 "root" "I" := slot_ne (C := oc1) (Or.inr (own_w hw 20 rfl)) (Or.inl (own_w hw 15 rfl)) (by decide) (t := (.array .int)) (t' := .int) (by decide) (by decide)
theorem sn_4 (hw : ∀ d ∈ tables_1, d.before a0 Z = true) : Jvm.RoadKit.slotOf Z oc0 "slotOf" "[I" ≠ Jvm.RoadKit.slotOf Z oc0 "root" "I" := slot_ne (C := oc1) (Or.inr (own_w hw 22 rfl)) (Or.inl (own_w hw 15 rfl)) (by decide) (t := (.array .int)) (t' := .int) (by decide) (by decide)
theorem sn_5 (hw : ∀ d ∈ tables_1, d.before a0 Z = true) : Jvm.RoadKit.slotOf Z oc0 "unusedSlots" "[I" ≠ Jvm.RoadKit.slotOf Z oc0 "root" "I" := slot_ne (C := oc1) (Or.inr (own_w hw 24 rfl)) (Or.inl (own_w hw 15 rfl)) (by decide) (t := (.array .int)) (t' := .int) (by decide) (by decide)
theorem sn_6 (hw : ∀ d ∈ tables_1, d.before a0 Z = true) : Jvm.RoadKit.slotOf Z oc0 "left" "[I" ≠ Jvm.RoadKit.slotOf Z oc0 "root" "I" := slot_ne (C := oc1) (Or.inr (own_w hw 28 rfl)) (Or.inl (own_w hw 15 rfl)) (by decide) (t := (.array .int)) (t' := .int) (by decide) (by decide)
theorem sn_7 (hw : ∀ d ∈ tables_1, d.before a0 Z = true) : Jvm.RoadKit.slotOf Z oc0 "right" "[I" ≠ Jvm.RoadKit.slotOf Z oc0 "root" "I" := slot_ne (C := oc1) (Or.inr (own_w hw 30 rfl)) (Or.inl (own_w hw 15 rfl)) (by decide) (t := (.array .int)) (t' := .int) (by decide) (by decide)
theorem sn_8 (hw : ∀ d ∈ tables_1, d.before a0 Z = true) : Jvm.RoadKit.slotOf Z oc0 "children" "[[I" ≠ Jvm.RoadKit.slotOf Z oc0 "root" "I" := slot_ne (C := oc1) (Or.inr (own_w hw 35 rfl)) (Or.inl (own_w hw 15 rfl)) (by decide) (t := (.array (.array .int))) (t' := .int) (by decide) (by decide)
theorem sn_9 (hw : ∀ d ∈ tables_1, d.before a0 Z = true) : Jvm.RoadKit.slotOf Z oc0 "height" "[B" ≠ Jvm.RoadKit.slotOf Z oc0 "root" "I" := slot_ne (C := oc1) (Or.inr (own_w hw 38 rfl)) (Or.inl (own_w hw 15 rfl)) (by decide) (t := (.array .byte)) (t' := .int) (by decide) (by decide)
theorem sn_10 (hw : ∀ d ∈ tables_1, d.before a0 Z = true) : Jvm.RoadKit.slotOf Z oc1 "plannedEnd" "[J" ≠ Jvm.RoadKit.slotOf Z oc0 "root" "I" := slot_ne (C := oc1) (Or.inr (own_w hw 41 rfl)) (Or.inl (own_w hw 15 rfl)) (by decide) (t := (.array .long)) (t' := .int) (by decide) (by decide)
theorem sn_11 (hw : ∀ d ∈ tables_1, d.before a0 Z = true) : Jvm.RoadKit.slotOf Z oc1 "processors" "[J" ≠ Jvm.RoadKit.slotOf Z oc0 "root" "I" := slot_ne (C := oc1) (Or.inr (own_w hw 43 rfl)) (Or.inl (own_w hw 15 rfl)) (by decide) (t := (.array .long)) (t' := .int) (by decide) (by decide)
theorem sn_12 (hw : ∀ d ∈ tables_1, d.before a0 Z = true) : Jvm.RoadKit.slotOf Z oc1 "below" "[J" ≠ Jvm.RoadKit.slotOf Z oc0 "root" "I" := slot_ne (C := oc1) (Or.inr (own_w hw 45 rfl)) (Or.inl (own_w hw 15 rfl)) (by decide) (t := (.array .long)) (t' := .int) (by decide) (by decide)
theorem sn_13 (hw : ∀ d ∈ tables_1, d.before a0 Z = true) : Jvm.RoadKit.slotOf Z oc0 "root" "I" ≠ Jvm.RoadKit.slotOf Z oc0 "path" "[I" := slot_ne (C := oc1) (Or.inl (own_w hw 15 rfl)) (Or.inr (own_w hw 18 rfl)) (by decide) (t := .int) (t' := (.array .int)) (by decide) (by decide)
theorem sn_14 (hw : ∀ d ∈ tables_1, d.before a0 Z = true) : Jvm.RoadKit.slotOf Z oc0 "unused" "I" ≠ Jvm.RoadKit.slotOf Z oc0 "path" "[I" := slot_ne (C := oc1) (Or.inl (own_w hw 26 rfl)) (Or.inr (own_w hw 18 rfl)) (by decide) (t := .int) (t' := (.array .int)) (by decide) (by decide)
theorem sn_15 (hw : ∀ d ∈ tables_1, d.before a0 Z = true) : Jvm.RoadKit.slotOf Z oc0 "held" "I" ≠ Jvm.RoadKit.slotOf Z oc0 "path" "[I" := slot_ne (C := oc1) (Or.inl (own_w hw 69 rfl)) (Or.inr (own_w hw 18 rfl)) (by decide) (t := .int) (t' := (.array .int)) (by decide) (by decide)
theorem sn_16 (hw : ∀ d ∈ tables_1, d.before a0 Z = true) : Jvm.RoadKit.slotOf Z oc0 "sides" "[I" ≠ Jvm.RoadKit.slotOf Z oc0 "path" "[I" := slot_ne (C := oc1) (Or.inr (own_w hw 20 rfl)) (Or.inr (own_w hw 18 rfl)) (by decide) (t := (.array .int)) (t' := (.array .int)) (by decide) (by decide)
theorem sn_17 (hw : ∀ d ∈ tables_1, d.before a0 Z = true) : Jvm.RoadKit.slotOf Z oc0 "slotOf" "[I" ≠ Jvm.RoadKit.slotOf Z oc0 "path" "[I" := slot_ne (C := oc1) (Or.inr (own_w hw 22 rfl)) (Or.inr (own_w hw 18 rfl)) (by decide) (t := (.array .int)) (t' := (.array .int)) (by decide) (by decide)
theorem sn_18 (hw : ∀ d ∈ tables_1, d.before a0 Z = true) : Jvm.RoadKit.slotOf Z oc0 "unusedSlots" "[I" ≠ Jvm.RoadKit.slotOf Z oc0 "path" "[I" := slot_ne (C := oc1) (Or.inr (own_w hw 24 rfl)) (Or.inr (own_w hw 18 rfl)) (by decide) (t := (.array .int)) (t' := (.array .int)) (by decide) (by decide)
theorem sn_19 (hw : ∀ d ∈ tables_1, d.before a0 Z = true) : Jvm.RoadKit.slotOf Z oc0 "left" "[I" ≠ Jvm.RoadKit.slotOf Z oc0 "path" "[I" := slot_ne (C := oc1) (Or.inr (own_w hw 28 rfl)) (Or.inr (own_w hw 18 rfl)) (by decide) (t := (.array .int)) (t' := (.array .int)) (by decide) (by decide)
theorem sn_20 (hw : ∀ d ∈ tables_1, d.before a0 Z = true) : Jvm.RoadKit.slotOf Z oc0 "right" "[I" ≠ Jvm.RoadKit.slotOf Z oc0 "path" "[I" := slot_ne (C := oc1) (Or.inr (own_w hw 30 rfl)) (Or.inr (own_w hw 18 rfl)) (by decide) (t := (.array .int)) (t' := (.array .int)) (by decide) (by decide)
theorem sn_21 (hw : ∀ d ∈ tables_1, d.before a0 Z = true) : Jvm.RoadKit.slotOf Z oc0 "children" "[[I" ≠ Jvm.RoadKit.slotOf Z oc0 "path" "[I" := slot_ne (C := oc1) (Or.inr (own_w hw 35 rfl)) (Or.inr (own_w hw 18 rfl)) (by decide) (t := (.array (.array .int))) (t' := (.array .int)) (by decide) (by decide)
theorem sn_22 (hw : ∀ d ∈ tables_1, d.before a0 Z = true) : Jvm.RoadKit.slotOf Z oc0 "height" "[B" ≠ Jvm.RoadKit.slotOf Z oc0 "path" "[I" := slot_ne (C := oc1) (Or.inr (own_w hw 38 rfl)) (Or.inr (own_w hw 18 rfl)) (by decide) (t := (.array .byte)) (t' := (.array .int)) (by decide) (by decide)
theorem sn_23 (hw : ∀ d ∈ tables_1, d.before a0 Z = true) : Jvm.RoadKit.slotOf Z oc1 "plannedEnd" "[J" ≠ Jvm.RoadKit.slotOf Z oc0 "path" "[I" := slot_ne (C := oc1) (Or.inr (own_w hw 41 rfl)) (Or.inr (own_w hw 18 rfl)) (by decide) (t := (.array .long)) (t' := (.array .int)) (by decide) (by decide)
theorem sn_24 (hw : ∀ d ∈ tables_1, d.before a0 Z = true) : Jvm.RoadKit.slotOf Z oc1 "processors" "[J" ≠ Jvm.RoadKit.slotOf Z oc0 "path" "[I" := slot_ne (C := oc1) (Or.inr (own_w hw 43 rfl)) (Or.inr (own_w hw 18 rfl)) (by decide) (t := (.array .long)) (t' := (.array .int)) (by decide) (by decide)
theorem sn_25 (hw : ∀ d ∈ tables_1, d.before a0 Z = true) : Jvm.RoadKit.slotOf Z oc1 "below" "[J" ≠ Jvm.RoadKit.slotOf Z oc0 "path" "[I" := slot_ne (C := oc1) (Or.inr (own_w hw 45 rfl)) (Or.inr (own_w hw 18 rfl)) (by decide) (t := (.array .long)) (t' := (.array .int)) (by decide) (by decide)
theorem sn_26 (hw : ∀ d ∈ tables_1, d.before a0 Z = true) : Jvm.RoadKit.slotOf Z oc0 "root" "I" ≠ Jvm.RoadKit.slotOf Z oc0 "sides" "[I" := slot_ne (C := oc1) (Or.inl (own_w hw 15 rfl)) (Or.inr (own_w hw 20 rfl)) (by decide) (t := .int) (t' := (.array .int)) (by decide) (by decide)
theorem sn_27 (hw : ∀ d ∈ tables_1, d.before a0 Z = true) : Jvm.RoadKit.slotOf Z oc0 "unused" "I" ≠ Jvm.RoadKit.slotOf Z oc0 "sides" "[I" := slot_ne (C := oc1) (Or.inl (own_w hw 26 rfl)) (Or.inr (own_w hw 20 rfl)) (by decide) (t := .int) (t' := (.array .int)) (by decide) (by decide)
theorem sn_28 (hw : ∀ d ∈ tables_1, d.before a0 Z = true) : Jvm.RoadKit.slotOf Z oc0 "held" "I" ≠ Jvm.RoadKit.slotOf Z oc0 "sides" "[I" := slot_ne (C := oc1) (Or.inl (own_w hw 69 rfl)) (Or.inr (own_w hw 20 rfl)) (by decide) (t := .int) (t' := (.array .int)) (by decide) (by decide)
theorem sn_29 (hw : ∀ d ∈ tables_1, d.before a0 Z = true) : Jvm.RoadKit.slotOf Z oc0 "path" "[I" ≠ Jvm.RoadKit.slotOf Z oc0 "sides" "[I" := slot_ne (C := oc1) (Or.inr (own_w hw 18 rfl)) (Or.inr (own_w hw 20 rfl)) (by decide) (t := (.array .int)) (t' := (.array .int)) (by decide) (by decide)
theorem sn_30 (hw : ∀ d ∈ tables_1, d.before a0 Z = true) : Jvm.RoadKit.slotOf Z oc0 "slotOf" "[I" ≠ Jvm.RoadKit.slotOf Z oc0 "sides" "[I" := slot_ne (C := oc1) (Or.inr (own_w hw 22 rfl)) (Or.inr (own_w hw 20 rfl)) (by decide) (t := (.array .int)) (t' := (.array .int)) (by decide) (by decide)
theorem sn_31 (hw : ∀ d ∈ tables_1, d.before a0 Z = true) : Jvm.RoadKit.slotOf Z oc0 "unusedSlots" "[I" ≠ Jvm.RoadKit.slotOf Z oc0 "sides" "[I" := slot_ne (C := oc1) (Or.inr (own_w hw 24 rfl)) (Or.inr (own_w hw 20 rfl)) (by decide) (t := (.array .int)) (t' := (.array .int)) (by decide) (by decide)
theorem sn_32 (hw : ∀ d ∈ tables_1, d.before a0 Z = true) : Jvm.RoadKit.slotOf Z oc0 "left" "[I" ≠ Jvm.RoadKit.slotOf Z oc0 "sides" "[I" := slot_ne (C := oc1) (Or.inr (own_w hw 28 rfl)) (Or.inr (own_w hw 20 rfl)) (by decide) (t := (.array .int)) (t' := (.array .int)) (by decide) (by decide)
theorem sn_33 (hw : ∀ d ∈ tables_1, d.before a0 Z = true) : Jvm.RoadKit.slotOf Z oc0 "right" "[I" ≠ Jvm.RoadKit.slotOf Z oc0 "sides" "[I" := slot_ne (C := oc1) (Or.inr (own_w hw 30 rfl)) (Or.inr (own_w hw 20 rfl)) (by decide) (t := (.array .int)) (t' := (.array .int)) (by decide) (by decide)
theorem sn_34 (hw : ∀ d ∈ tables_1, d.before a0 Z = true) : Jvm.RoadKit.slotOf Z oc0 "children" "[[I" ≠ Jvm.RoadKit.slotOf Z oc0 "sides" "[I" := slot_ne (C := oc1) (Or.inr (own_w hw 35 rfl)) (Or.inr (own_w hw 20 rfl)) (by decide) (t := (.array (.array .int))) (t' := (.array .int)) (by decide) (by decide)
theorem sn_35 (hw : ∀ d ∈ tables_1, d.before a0 Z = true) : Jvm.RoadKit.slotOf Z oc0 "height" "[B" ≠ Jvm.RoadKit.slotOf Z oc0 "sides" "[I" := slot_ne (C := oc1) (Or.inr (own_w hw 38 rfl)) (Or.inr (own_w hw 20 rfl)) (by decide) (t := (.array .byte)) (t' := (.array .int)) (by decide) (by decide)
theorem sn_36 (hw : ∀ d ∈ tables_1, d.before a0 Z = true) : Jvm.RoadKit.slotOf Z oc1 "plannedEnd" "[J" ≠ Jvm.RoadKit.slotOf Z oc0 "sides" "[I" := slot_ne (C := oc1) (Or.inr (own_w hw 41 rfl)) (Or.inr (own_w hw 20 rfl)) (by decide) (t := (.array .long)) (t' := (.array .int)) (by decide) (by decide)
theorem sn_37 (hw : ∀ d ∈ tables_1, d.before a0 Z = true) : Jvm.RoadKit.slotOf Z oc1 "processors" "[J" ≠ Jvm.RoadKit.slotOf Z oc0 "sides" "[I" := slot_ne (C := oc1) (Or.inr (own_w hw 43 rfl)) (Or.inr (own_w hw 20 rfl)) (by decide) (t := (.array .long)) (t' := (.array .int)) (by decide) (by decide)
theorem sn_38 (hw : ∀ d ∈ tables_1, d.before a0 Z = true) : Jvm.RoadKit.slotOf Z oc1 "below" "[J" ≠ Jvm.RoadKit.slotOf Z oc0 "sides" "[I" := slot_ne (C := oc1) (Or.inr (own_w hw 45 rfl)) (Or.inr (own_w hw 20 rfl)) (by decide) (t := (.array .long)) (t' := (.array .int)) (by decide) (by decide)
theorem sn_39 (hw : ∀ d ∈ tables_1, d.before a0 Z = true) : Jvm.RoadKit.slotOf Z oc0 "root" "I" ≠ Jvm.RoadKit.slotOf Z oc0 "slotOf" "[I" := slot_ne (C := oc1) (Or.inl (own_w hw 15 rfl)) (Or.inr (own_w hw 22 rfl)) (by decide) (t := .int) (t' := (.array .int)) (by decide) (by decide)
theorem sn_40 (hw : ∀ d ∈ tables_1, d.before a0 Z = true) : Jvm.RoadKit.slotOf Z oc0 "unused" "I" ≠ Jvm.RoadKit.slotOf Z oc0 "slotOf" "[I" := slot_ne (C := oc1) (Or.inl (own_w hw 26 rfl)) (Or.inr (own_w hw 22 rfl)) (by decide) (t := .int) (t' := (.array .int)) (by decide) (by decide)
theorem sn_41 (hw : ∀ d ∈ tables_1, d.before a0 Z = true) : Jvm.RoadKit.slotOf Z oc0 "held" "I" ≠ Jvm.RoadKit.slotOf Z oc0 "slotOf" "[I" := slot_ne (C := oc1) (Or.inl (own_w hw 69 rfl)) (Or.inr (own_w hw 22 rfl)) (by decide) (t := .int) (t' := (.array .int)) (by decide) (by decide)
theorem sn_42 (hw : ∀ d ∈ tables_1, d.before a0 Z = true) : Jvm.RoadKit.slotOf Z oc0 "path" "[I" ≠ Jvm.RoadKit.slotOf Z oc0 "slotOf" "[I" := slot_ne (C := oc1) (Or.inr (own_w hw 18 rfl)) (Or.inr (own_w hw 22 rfl)) (by decide) (t := (.array .int)) (t' := (.array .int)) (by decide) (by decide)
theorem sn_43 (hw : ∀ d ∈ tables_1, d.before a0 Z = true) : Jvm.RoadKit.slotOf Z oc0 "sides" "[I" ≠ Jvm.RoadKit.slotOf Z oc0 "slotOf" "[I" := slot_ne (C := oc1) (Or.inr (own_w hw 20 rfl)) (Or.inr (own_w hw 22 rfl)) (by decide) (t := (.array .int)) (t' := (.array .int)) (by decide) (by decide)
theorem sn_44 (hw : ∀ d ∈ tables_1, d.before a0 Z = true) : Jvm.RoadKit.slotOf Z oc0 "unusedSlots" "[I" ≠ Jvm.RoadKit.slotOf Z oc0 "slotOf" "[I" := slot_ne (C := oc1) (Or.inr (own_w hw 24 rfl)) (Or.inr (own_w hw 22 rfl)) (by decide) (t := (.array .int)) (t' := (.array .int)) (by decide) (by decide)
theorem sn_45 (hw : ∀ d ∈ tables_1, d.before a0 Z = true) : Jvm.RoadKit.slotOf Z oc0 "left" "[I" ≠ Jvm.RoadKit.slotOf Z oc0 "slotOf" "[I" := slot_ne (C := oc1) (Or.inr (own_w hw 28 rfl)) (Or.inr (own_w hw 22 rfl)) (by decide) (t := (.array .int)) (t' := (.array .int)) (by decide) (by decide)
theorem sn_46 (hw : ∀ d ∈ tables_1, d.before a0 Z = true) : Jvm.RoadKit.slotOf Z oc0 "right" "[I" ≠ Jvm.RoadKit.slotOf Z oc0 "slotOf" "[I" := slot_ne (C := oc1) (Or.inr (own_w hw 30 rfl)) (Or.inr (own_w hw 22 rfl)) (by decide) (t := (.array .int)) (t' := (.array .int)) (by decide) (by decide)
theorem sn_47 (hw : ∀ d ∈ tables_1, d.before a0 Z = true) : Jvm.RoadKit.slotOf Z oc0 "children" "[[I" ≠ Jvm.RoadKit.slotOf Z oc0 "slotOf" "[I" := slot_ne (C := oc1) (Or.inr (own_w hw 35 rfl)) (Or.inr (own_w hw 22 rfl)) (by decide) (t := (.array (.array .int))) (t' := (.array .int)) (by decide) (by decide)
theorem sn_48 (hw : ∀ d ∈ tables_1, d.before a0 Z = true) : Jvm.RoadKit.slotOf Z oc0 "height" "[B" ≠ Jvm.RoadKit.slotOf Z oc0 "slotOf" "[I" := slot_ne (C := oc1) (Or.inr (own_w hw 38 rfl)) (Or.inr (own_w hw 22 rfl)) (by decide) (t := (.array .byte)) (t' := (.array .int)) (by decide) (by decide)
theorem sn_49 (hw : ∀ d ∈ tables_1, d.before a0 Z = true) : Jvm.RoadKit.slotOf Z oc1 "plannedEnd" "[J" ≠ Jvm.RoadKit.slotOf Z oc0 "slotOf" "[I" := slot_ne (C := oc1) (Or.inr (own_w hw 41 rfl)) (Or.inr (own_w hw 22 rfl)) (by decide) (t := (.array .long)) (t' := (.array .int)) (by decide) (by decide)
theorem sn_50 (hw : ∀ d ∈ tables_1, d.before a0 Z = true) : Jvm.RoadKit.slotOf Z oc1 "processors" "[J" ≠ Jvm.RoadKit.slotOf Z oc0 "slotOf" "[I" := slot_ne (C := oc1) (Or.inr (own_w hw 43 rfl)) (Or.inr (own_w hw 22 rfl)) (by decide) (t := (.array .long)) (t' := (.array .int)) (by decide) (by decide)
theorem sn_51 (hw : ∀ d ∈ tables_1, d.before a0 Z = true) : Jvm.RoadKit.slotOf Z oc1 "below" "[J" ≠ Jvm.RoadKit.slotOf Z oc0 "slotOf" "[I" := slot_ne (C := oc1) (Or.inr (own_w hw 45 rfl)) (Or.inr (own_w hw 22 rfl)) (by decide) (t := (.array .long)) (t' := (.array .int)) (by decide) (by decide)
theorem sn_52 (hw : ∀ d ∈ tables_1, d.before a0 Z = true) : Jvm.RoadKit.slotOf Z oc0 "root" "I" ≠ Jvm.RoadKit.slotOf Z oc0 "unusedSlots" "[I" := slot_ne (C := oc1) (Or.inl (own_w hw 15 rfl)) (Or.inr (own_w hw 24 rfl)) (by decide) (t := .int) (t' := (.array .int)) (by decide) (by decide)
theorem sn_53 (hw : ∀ d ∈ tables_1, d.before a0 Z = true) : Jvm.RoadKit.slotOf Z oc0 "unused" "I" ≠ Jvm.RoadKit.slotOf Z oc0 "unusedSlots" "[I" := slot_ne (C := oc1) (Or.inl (own_w hw 26 rfl)) (Or.inr (own_w hw 24 rfl)) (by decide) (t := .int) (t' := (.array .int)) (by decide) (by decide)
theorem sn_54 (hw : ∀ d ∈ tables_1, d.before a0 Z = true) : Jvm.RoadKit.slotOf Z oc0 "held" "I" ≠ Jvm.RoadKit.slotOf Z oc0 "unusedSlots" "[I" := slot_ne (C := oc1) (Or.inl (own_w hw 69 rfl)) (Or.inr (own_w hw 24 rfl)) (by decide) (t := .int) (t' := (.array .int)) (by decide) (by decide)
theorem sn_55 (hw : ∀ d ∈ tables_1, d.before a0 Z = true) : Jvm.RoadKit.slotOf Z oc0 "path" "[I" ≠ Jvm.RoadKit.slotOf Z oc0 "unusedSlots" "[I" := slot_ne (C := oc1) (Or.inr (own_w hw 18 rfl)) (Or.inr (own_w hw 24 rfl)) (by decide) (t := (.array .int)) (t' := (.array .int)) (by decide) (by decide)
theorem sn_56 (hw : ∀ d ∈ tables_1, d.before a0 Z = true) : Jvm.RoadKit.slotOf Z oc0 "sides" "[I" ≠ Jvm.RoadKit.slotOf Z oc0 "unusedSlots" "[I" := slot_ne (C := oc1) (Or.inr (own_w hw 20 rfl)) (Or.inr (own_w hw 24 rfl)) (by decide) (t := (.array .int)) (t' := (.array .int)) (by decide) (by decide)
theorem sn_57 (hw : ∀ d ∈ tables_1, d.before a0 Z = true) : Jvm.RoadKit.slotOf Z oc0 "slotOf" "[I" ≠ Jvm.RoadKit.slotOf Z oc0 "unusedSlots" "[I" := slot_ne (C := oc1) (Or.inr (own_w hw 22 rfl)) (Or.inr (own_w hw 24 rfl)) (by decide) (t := (.array .int)) (t' := (.array .int)) (by decide) (by decide)
theorem sn_58 (hw : ∀ d ∈ tables_1, d.before a0 Z = true) : Jvm.RoadKit.slotOf Z oc0 "left" "[I" ≠ Jvm.RoadKit.slotOf Z oc0 "unusedSlots" "[I" := slot_ne (C := oc1) (Or.inr (own_w hw 28 rfl)) (Or.inr (own_w hw 24 rfl)) (by decide) (t := (.array .int)) (t' := (.array .int)) (by decide) (by decide)
theorem sn_59 (hw : ∀ d ∈ tables_1, d.before a0 Z = true) : Jvm.RoadKit.slotOf Z oc0 "right" "[I" ≠ Jvm.RoadKit.slotOf Z oc0 "unusedSlots" "[I" := slot_ne (C := oc1) (Or.inr (own_w hw 30 rfl)) (Or.inr (own_w hw 24 rfl)) (by decide) (t := (.array .int)) (t' := (.array .int)) (by decide) (by decide)
theorem sn_60 (hw : ∀ d ∈ tables_1, d.before a0 Z = true) : Jvm.RoadKit.slotOf Z oc0 "children" "[[I" ≠ Jvm.RoadKit.slotOf Z oc0 "unusedSlots" "[I" := slot_ne (C := oc1) (Or.inr (own_w hw 35 rfl)) (Or.inr (own_w hw 24 rfl)) (by decide) (t := (.array (.array .int))) (t' := (.array .int)) (by decide) (by decide)
theorem sn_61 (hw : ∀ d ∈ tables_1, d.before a0 Z = true) : Jvm.RoadKit.slotOf Z oc0 "height" "[B" ≠ Jvm.RoadKit.slotOf Z oc0 "unusedSlots" "[I" := slot_ne (C := oc1) (Or.inr (own_w hw 38 rfl)) (Or.inr (own_w hw 24 rfl)) (by decide) (t := (.array .byte)) (t' := (.array .int)) (by decide) (by decide)
theorem sn_62 (hw : ∀ d ∈ tables_1, d.before a0 Z = true) : Jvm.RoadKit.slotOf Z oc1 "plannedEnd" "[J" ≠ Jvm.RoadKit.slotOf Z oc0 "unusedSlots" "[I" := slot_ne (C := oc1) (Or.inr (own_w hw 41 rfl)) (Or.inr (own_w hw 24 rfl)) (by decide) (t := (.array .long)) (t' := (.array .int)) (by decide) (by decide)
theorem sn_63 (hw : ∀ d ∈ tables_1, d.before a0 Z = true) : Jvm.RoadKit.slotOf Z oc1 "processors" "[J" ≠ Jvm.RoadKit.slotOf Z oc0 "unusedSlots" "[I" := slot_ne (C := oc1) (Or.inr (own_w hw 43 rfl)) (Or.inr (own_w hw 24 rfl)) (by decide) (t := (.array .long)) (t' := (.array .int)) (by decide) (by decide)
theorem sn_64 (hw : ∀ d ∈ tables_1, d.before a0 Z = true) : Jvm.RoadKit.slotOf Z oc1 "below" "[J" ≠ Jvm.RoadKit.slotOf Z oc0 "unusedSlots" "[I" := slot_ne (C := oc1) (Or.inr (own_w hw 45 rfl)) (Or.inr (own_w hw 24 rfl)) (by decide) (t := (.array .long)) (t' := (.array .int)) (by decide) (by decide)
theorem sn_65 (hw : ∀ d ∈ tables_1, d.before a0 Z = true) : Jvm.RoadKit.slotOf Z oc0 "root" "I" ≠ Jvm.RoadKit.slotOf Z oc0 "unused" "I" := slot_ne (C := oc1) (Or.inl (own_w hw 15 rfl)) (Or.inl (own_w hw 26 rfl)) (by decide) (t := .int) (t' := .int) (by decide) (by decide)
theorem sn_66 (hw : ∀ d ∈ tables_1, d.before a0 Z = true) : Jvm.RoadKit.slotOf Z oc0 "held" "I" ≠ Jvm.RoadKit.slotOf Z oc0 "unused" "I" := slot_ne (C := oc1) (Or.inl (own_w hw 69 rfl)) (Or.inl (own_w hw 26 rfl)) (by decide) (t := .int) (t' := .int) (by decide) (by decide)
theorem sn_67 (hw : ∀ d ∈ tables_1, d.before a0 Z = true) : Jvm.RoadKit.slotOf Z oc0 "path" "[I" ≠ Jvm.RoadKit.slotOf Z oc0 "unused" "I" := slot_ne (C := oc1) (Or.inr (own_w hw 18 rfl)) (Or.inl (own_w hw 26 rfl)) (by decide) (t := (.array .int)) (t' := .int) (by decide) (by decide)
theorem sn_68 (hw : ∀ d ∈ tables_1, d.before a0 Z = true) : Jvm.RoadKit.slotOf Z oc0 "sides" "[I" ≠ Jvm.RoadKit.slotOf Z oc0 "unused" "I" := slot_ne (C := oc1) (Or.inr (own_w hw 20 rfl)) (Or.inl (own_w hw 26 rfl)) (by decide) (t := (.array .int)) (t' := .int) (by decide) (by decide)
theorem sn_69 (hw : ∀ d ∈ tables_1, d.before a0 Z = true) : Jvm.RoadKit.slotOf Z oc0 "slotOf" "[I" ≠ Jvm.RoadKit.slotOf Z oc0 "unused" "I" := slot_ne (C := oc1) (Or.inr (own_w hw 22 rfl)) (Or.inl (own_w hw 26 rfl)) (by decide) (t := (.array .int)) (t' := .int) (by decide) (by decide)
theorem sn_70 (hw : ∀ d ∈ tables_1, d.before a0 Z = true) : Jvm.RoadKit.slotOf Z oc0 "unusedSlots" "[I" ≠ Jvm.RoadKit.slotOf Z oc0 "unused" "I" := slot_ne (C := oc1) (Or.inr (own_w hw 24 rfl)) (Or.inl (own_w hw 26 rfl)) (by decide) (t := (.array .int)) (t' := .int) (by decide) (by decide)
theorem sn_71 (hw : ∀ d ∈ tables_1, d.before a0 Z = true) : Jvm.RoadKit.slotOf Z oc0 "left" "[I" ≠ Jvm.RoadKit.slotOf Z oc0 "unused" "I" := slot_ne (C := oc1) (Or.inr (own_w hw 28 rfl)) (Or.inl (own_w hw 26 rfl)) (by decide) (t := (.array .int)) (t' := .int) (by decide) (by decide)
theorem sn_72 (hw : ∀ d ∈ tables_1, d.before a0 Z = true) : Jvm.RoadKit.slotOf Z oc0 "right" "[I" ≠ Jvm.RoadKit.slotOf Z oc0 "unused" "I" := slot_ne (C := oc1) (Or.inr (own_w hw 30 rfl)) (Or.inl (own_w hw 26 rfl)) (by decide) (t := (.array .int)) (t' := .int) (by decide) (by decide)
theorem sn_73 (hw : ∀ d ∈ tables_1, d.before a0 Z = true) : Jvm.RoadKit.slotOf Z oc0 "children" "[[I" ≠ Jvm.RoadKit.slotOf Z oc0 "unused" "I" := slot_ne (C := oc1) (Or.inr (own_w hw 35 rfl)) (Or.inl (own_w hw 26 rfl)) (by decide) (t := (.array (.array .int))) (t' := .int) (by decide) (by decide)
theorem sn_74 (hw : ∀ d ∈ tables_1, d.before a0 Z = true) : Jvm.RoadKit.slotOf Z oc0 "height" "[B" ≠ Jvm.RoadKit.slotOf Z oc0 "unused" "I" := slot_ne (C := oc1) (Or.inr (own_w hw 38 rfl)) (Or.inl (own_w hw 26 rfl)) (by decide) (t := (.array .byte)) (t' := .int) (by decide) (by decide)
theorem sn_75 (hw : ∀ d ∈ tables_1, d.before a0 Z = true) : Jvm.RoadKit.slotOf Z oc1 "plannedEnd" "[J" ≠ Jvm.RoadKit.slotOf Z oc0 "unused" "I" := slot_ne (C := oc1) (Or.inr (own_w hw 41 rfl)) (Or.inl (own_w hw 26 rfl)) (by decide) (t := (.array .long)) (t' := .int) (by decide) (by decide)
theorem sn_76 (hw : ∀ d ∈ tables_1, d.before a0 Z = true) : Jvm.RoadKit.slotOf Z oc1 "processors" "[J" ≠ Jvm.RoadKit.slotOf Z oc0 "unused" "I" := slot_ne (C := oc1) (Or.inr (own_w hw 43 rfl)) (Or.inl (own_w hw 26 rfl)) (by decide) (t := (.array .long)) (t' := .int) (by decide) (by decide)
theorem sn_77 (hw : ∀ d ∈ tables_1, d.before a0 Z = true) : Jvm.RoadKit.slotOf Z oc1 "below" "[J" ≠ Jvm.RoadKit.slotOf Z oc0 "unused" "I" := slot_ne (C := oc1) (Or.inr (own_w hw 45 rfl)) (Or.inl (own_w hw 26 rfl)) (by decide) (t := (.array .long)) (t' := .int) (by decide) (by decide)
theorem sn_78 (hw : ∀ d ∈ tables_1, d.before a0 Z = true) : Jvm.RoadKit.slotOf Z oc0 "root" "I" ≠ Jvm.RoadKit.slotOf Z oc0 "left" "[I" := slot_ne (C := oc1) (Or.inl (own_w hw 15 rfl)) (Or.inr (own_w hw 28 rfl)) (by decide) (t := .int) (t' := (.array .int)) (by decide) (by decide)
theorem sn_79 (hw : ∀ d ∈ tables_1, d.before a0 Z = true) : Jvm.RoadKit.slotOf Z oc0 "unused" "I" ≠ Jvm.RoadKit.slotOf Z oc0 "left" "[I" := slot_ne (C := oc1) (Or.inl (own_w hw 26 rfl)) (Or.inr (own_w hw 28 rfl)) (by decide) (t := .int) (t' := (.array .int)) (by decide) (by decide)
theorem sn_80 (hw : ∀ d ∈ tables_1, d.before a0 Z = true) : Jvm.RoadKit.slotOf Z oc0 "held" "I" ≠ Jvm.RoadKit.slotOf Z oc0 "left" "[I" := slot_ne (C := oc1) (Or.inl (own_w hw 69 rfl)) (Or.inr (own_w hw 28 rfl)) (by decide) (t := .int) (t' := (.array .int)) (by decide) (by decide)
theorem sn_81 (hw : ∀ d ∈ tables_1, d.before a0 Z = true) : Jvm.RoadKit.slotOf Z oc0 "path" "[I" ≠ Jvm.RoadKit.slotOf Z oc0 "left" "[I" := slot_ne (C := oc1) (Or.inr (own_w hw 18 rfl)) (Or.inr (own_w hw 28 rfl)) (by decide) (t := (.array .int)) (t' := (.array .int)) (by decide) (by decide)
theorem sn_82 (hw : ∀ d ∈ tables_1, d.before a0 Z = true) : Jvm.RoadKit.slotOf Z oc0 "sides" "[I" ≠ Jvm.RoadKit.slotOf Z oc0 "left" "[I" := slot_ne (C := oc1) (Or.inr (own_w hw 20 rfl)) (Or.inr (own_w hw 28 rfl)) (by decide) (t := (.array .int)) (t' := (.array .int)) (by decide) (by decide)
theorem sn_83 (hw : ∀ d ∈ tables_1, d.before a0 Z = true) : Jvm.RoadKit.slotOf Z oc0 "slotOf" "[I" ≠ Jvm.RoadKit.slotOf Z oc0 "left" "[I" := slot_ne (C := oc1) (Or.inr (own_w hw 22 rfl)) (Or.inr (own_w hw 28 rfl)) (by decide) (t := (.array .int)) (t' := (.array .int)) (by decide) (by decide)
theorem sn_84 (hw : ∀ d ∈ tables_1, d.before a0 Z = true) : Jvm.RoadKit.slotOf Z oc0 "unusedSlots" "[I" ≠ Jvm.RoadKit.slotOf Z oc0 "left" "[I" := slot_ne (C := oc1) (Or.inr (own_w hw 24 rfl)) (Or.inr (own_w hw 28 rfl)) (by decide) (t := (.array .int)) (t' := (.array .int)) (by decide) (by decide)
theorem sn_85 (hw : ∀ d ∈ tables_1, d.before a0 Z = true) : Jvm.RoadKit.slotOf Z oc0 "right" "[I" ≠ Jvm.RoadKit.slotOf Z oc0 "left" "[I" := slot_ne (C := oc1) (Or.inr (own_w hw 30 rfl)) (Or.inr (own_w hw 28 rfl)) (by decide) (t := (.array .int)) (t' := (.array .int)) (by decide) (by decide)
theorem sn_86 (hw : ∀ d ∈ tables_1, d.before a0 Z = true) : Jvm.RoadKit.slotOf Z oc0 "children" "[[I" ≠ Jvm.RoadKit.slotOf Z oc0 "left" "[I" := slot_ne (C := oc1) (Or.inr (own_w hw 35 rfl)) (Or.inr (own_w hw 28 rfl)) (by decide) (t := (.array (.array .int))) (t' := (.array .int)) (by decide) (by decide)
theorem sn_87 (hw : ∀ d ∈ tables_1, d.before a0 Z = true) : Jvm.RoadKit.slotOf Z oc0 "height" "[B" ≠ Jvm.RoadKit.slotOf Z oc0 "left" "[I" := slot_ne (C := oc1) (Or.inr (own_w hw 38 rfl)) (Or.inr (own_w hw 28 rfl)) (by decide) (t := (.array .byte)) (t' := (.array .int)) (by decide) (by decide)
theorem sn_88 (hw : ∀ d ∈ tables_1, d.before a0 Z = true) : Jvm.RoadKit.slotOf Z oc1 "plannedEnd" "[J" ≠ Jvm.RoadKit.slotOf Z oc0 "left" "[I" := slot_ne (C := oc1) (Or.inr (own_w hw 41 rfl)) (Or.inr (own_w hw 28 rfl)) (by decide) (t := (.array .long)) (t' := (.array .int)) (by decide) (by decide)
theorem sn_89 (hw : ∀ d ∈ tables_1, d.before a0 Z = true) : Jvm.RoadKit.slotOf Z oc1 "processors" "[J" ≠ Jvm.RoadKit.slotOf Z oc0 "left" "[I" := slot_ne (C := oc1) (Or.inr (own_w hw 43 rfl)) (Or.inr (own_w hw 28 rfl)) (by decide) (t := (.array .long)) (t' := (.array .int)) (by decide) (by decide)
theorem sn_90 (hw : ∀ d ∈ tables_1, d.before a0 Z = true) : Jvm.RoadKit.slotOf Z oc1 "below" "[J" ≠ Jvm.RoadKit.slotOf Z oc0 "left" "[I" := slot_ne (C := oc1) (Or.inr (own_w hw 45 rfl)) (Or.inr (own_w hw 28 rfl)) (by decide) (t := (.array .long)) (t' := (.array .int)) (by decide) (by decide)
theorem sn_91 (hw : ∀ d ∈ tables_1, d.before a0 Z = true) : Jvm.RoadKit.slotOf Z oc0 "root" "I" ≠ Jvm.RoadKit.slotOf Z oc0 "right" "[I" := slot_ne (C := oc1) (Or.inl (own_w hw 15 rfl)) (Or.inr (own_w hw 30 rfl)) (by decide) (t := .int) (t' := (.array .int)) (by decide) (by decide)
theorem sn_92 (hw : ∀ d ∈ tables_1, d.before a0 Z = true) : Jvm.RoadKit.slotOf Z oc0 "unused" "I" ≠ Jvm.RoadKit.slotOf Z oc0 "right" "[I" := slot_ne (C := oc1) (Or.inl (own_w hw 26 rfl)) (Or.inr (own_w hw 30 rfl)) (by decide) (t := .int) (t' := (.array .int)) (by decide) (by decide)
theorem sn_93 (hw : ∀ d ∈ tables_1, d.before a0 Z = true) : Jvm.RoadKit.slotOf Z oc0 "held" "I" ≠ Jvm.RoadKit.slotOf Z oc0 "right" "[I" := slot_ne (C := oc1) (Or.inl (own_w hw 69 rfl)) (Or.inr (own_w hw 30 rfl)) (by decide) (t := .int) (t' := (.array .int)) (by decide) (by decide)
theorem sn_94 (hw : ∀ d ∈ tables_1, d.before a0 Z = true) : Jvm.RoadKit.slotOf Z oc0 "path" "[I" ≠ Jvm.RoadKit.slotOf Z oc0 "right" "[I" := slot_ne (C := oc1) (Or.inr (own_w hw 18 rfl)) (Or.inr (own_w hw 30 rfl)) (by decide) (t := (.array .int)) (t' := (.array .int)) (by decide) (by decide)
theorem sn_95 (hw : ∀ d ∈ tables_1, d.before a0 Z = true) : Jvm.RoadKit.slotOf Z oc0 "sides" "[I" ≠ Jvm.RoadKit.slotOf Z oc0 "right" "[I" := slot_ne (C := oc1) (Or.inr (own_w hw 20 rfl)) (Or.inr (own_w hw 30 rfl)) (by decide) (t := (.array .int)) (t' := (.array .int)) (by decide) (by decide)
theorem sn_96 (hw : ∀ d ∈ tables_1, d.before a0 Z = true) : Jvm.RoadKit.slotOf Z oc0 "slotOf" "[I" ≠ Jvm.RoadKit.slotOf Z oc0 "right" "[I" := slot_ne (C := oc1) (Or.inr (own_w hw 22 rfl)) (Or.inr (own_w hw 30 rfl)) (by decide) (t := (.array .int)) (t' := (.array .int)) (by decide) (by decide)
theorem sn_97 (hw : ∀ d ∈ tables_1, d.before a0 Z = true) : Jvm.RoadKit.slotOf Z oc0 "unusedSlots" "[I" ≠ Jvm.RoadKit.slotOf Z oc0 "right" "[I" := slot_ne (C := oc1) (Or.inr (own_w hw 24 rfl)) (Or.inr (own_w hw 30 rfl)) (by decide) (t := (.array .int)) (t' := (.array .int)) (by decide) (by decide)
theorem sn_98 (hw : ∀ d ∈ tables_1, d.before a0 Z = true) : Jvm.RoadKit.slotOf Z oc0 "left" "[I" ≠ Jvm.RoadKit.slotOf Z oc0 "right" "[I" := slot_ne (C := oc1) (Or.inr (own_w hw 28 rfl)) (Or.inr (own_w hw 30 rfl)) (by decide) (t := (.array .int)) (t' := (.array .int)) (by decide) (by decide)
theorem sn_99 (hw : ∀ d ∈ tables_1, d.before a0 Z = true) : Jvm.RoadKit.slotOf Z oc0 "children" "[[I" ≠ Jvm.RoadKit.slotOf Z oc0 "right" "[I" := slot_ne (C := oc1) (Or.inr (own_w hw 35 rfl)) (Or.inr (own_w hw 30 rfl)) (by decide) (t := (.array (.array .int))) (t' := (.array .int)) (by decide) (by decide)
theorem sn_100 (hw : ∀ d ∈ tables_1, d.before a0 Z = true) : Jvm.RoadKit.slotOf Z oc0 "height" "[B" ≠ Jvm.RoadKit.slotOf Z oc0 "right" "[I" := slot_ne (C := oc1) (Or.inr (own_w hw 38 rfl)) (Or.inr (own_w hw 30 rfl)) (by decide) (t := (.array .byte)) (t' := (.array .int)) (by decide) (by decide)
theorem sn_101 (hw : ∀ d ∈ tables_1, d.before a0 Z = true) : Jvm.RoadKit.slotOf Z oc1 "plannedEnd" "[J" ≠ Jvm.RoadKit.slotOf Z oc0 "right" "[I" := slot_ne (C := oc1) (Or.inr (own_w hw 41 rfl)) (Or.inr (own_w hw 30 rfl)) (by decide) (t := (.array .long)) (t' := (.array .int)) (by decide) (by decide)
theorem sn_102 (hw : ∀ d ∈ tables_1, d.before a0 Z = true) : Jvm.RoadKit.slotOf Z oc1 "processors" "[J" ≠ Jvm.RoadKit.slotOf Z oc0 "right" "[I" := slot_ne (C := oc1) (Or.inr (own_w hw 43 rfl)) (Or.inr (own_w hw 30 rfl)) (by decide) (t := (.array .long)) (t' := (.array .int)) (by decide) (by decide)
theorem sn_103 (hw : ∀ d ∈ tables_1, d.before a0 Z = true) : Jvm.RoadKit.slotOf Z oc1 "below" "[J" ≠ Jvm.RoadKit.slotOf Z oc0 "right" "[I" := slot_ne (C := oc1) (Or.inr (own_w hw 45 rfl)) (Or.inr (own_w hw 30 rfl)) (by decide) (t := (.array .long)) (t' := (.array .int)) (by decide) (by decide)
theorem sn_104 (hw : ∀ d ∈ tables_1, d.before a0 Z = true) : Jvm.RoadKit.slotOf Z oc0 "root" "I" ≠ Jvm.RoadKit.slotOf Z oc0 "children" "[[I" := slot_ne (C := oc1) (Or.inl (own_w hw 15 rfl)) (Or.inr (own_w hw 35 rfl)) (by decide) (t := .int) (t' := (.array (.array .int))) (by decide) (by decide)
theorem sn_105 (hw : ∀ d ∈ tables_1, d.before a0 Z = true) : Jvm.RoadKit.slotOf Z oc0 "unused" "I" ≠ Jvm.RoadKit.slotOf Z oc0 "children" "[[I" := slot_ne (C := oc1) (Or.inl (own_w hw 26 rfl)) (Or.inr (own_w hw 35 rfl)) (by decide) (t := .int) (t' := (.array (.array .int))) (by decide) (by decide)
theorem sn_106 (hw : ∀ d ∈ tables_1, d.before a0 Z = true) : Jvm.RoadKit.slotOf Z oc0 "held" "I" ≠ Jvm.RoadKit.slotOf Z oc0 "children" "[[I" := slot_ne (C := oc1) (Or.inl (own_w hw 69 rfl)) (Or.inr (own_w hw 35 rfl)) (by decide) (t := .int) (t' := (.array (.array .int))) (by decide) (by decide)
theorem sn_107 (hw : ∀ d ∈ tables_1, d.before a0 Z = true) : Jvm.RoadKit.slotOf Z oc0 "path" "[I" ≠ Jvm.RoadKit.slotOf Z oc0 "children" "[[I" := slot_ne (C := oc1) (Or.inr (own_w hw 18 rfl)) (Or.inr (own_w hw 35 rfl)) (by decide) (t := (.array .int)) (t' := (.array (.array .int))) (by decide) (by decide)
theorem sn_108 (hw : ∀ d ∈ tables_1, d.before a0 Z = true) : Jvm.RoadKit.slotOf Z oc0 "sides" "[I" ≠ Jvm.RoadKit.slotOf Z oc0 "children" "[[I" := slot_ne (C := oc1) (Or.inr (own_w hw 20 rfl)) (Or.inr (own_w hw 35 rfl)) (by decide) (t := (.array .int)) (t' := (.array (.array .int))) (by decide) (by decide)
theorem sn_109 (hw : ∀ d ∈ tables_1, d.before a0 Z = true) : Jvm.RoadKit.slotOf Z oc0 "slotOf" "[I" ≠ Jvm.RoadKit.slotOf Z oc0 "children" "[[I" := slot_ne (C := oc1) (Or.inr (own_w hw 22 rfl)) (Or.inr (own_w hw 35 rfl)) (by decide) (t := (.array .int)) (t' := (.array (.array .int))) (by decide) (by decide)
theorem sn_110 (hw : ∀ d ∈ tables_1, d.before a0 Z = true) : Jvm.RoadKit.slotOf Z oc0 "unusedSlots" "[I" ≠ Jvm.RoadKit.slotOf Z oc0 "children" "[[I" := slot_ne (C := oc1) (Or.inr (own_w hw 24 rfl)) (Or.inr (own_w hw 35 rfl)) (by decide) (t := (.array .int)) (t' := (.array (.array .int))) (by decide) (by decide)
theorem sn_111 (hw : ∀ d ∈ tables_1, d.before a0 Z = true) : Jvm.RoadKit.slotOf Z oc0 "left" "[I" ≠ Jvm.RoadKit.slotOf Z oc0 "children" "[[I" := slot_ne (C := oc1) (Or.inr (own_w hw 28 rfl)) (Or.inr (own_w hw 35 rfl)) (by decide) (t := (.array .int)) (t' := (.array (.array .int))) (by decide) (by decide)
theorem sn_112 (hw : ∀ d ∈ tables_1, d.before a0 Z = true) : Jvm.RoadKit.slotOf Z oc0 "right" "[I" ≠ Jvm.RoadKit.slotOf Z oc0 "children" "[[I" := slot_ne (C := oc1) (Or.inr (own_w hw 30 rfl)) (Or.inr (own_w hw 35 rfl)) (by decide) (t := (.array .int)) (t' := (.array (.array .int))) (by decide) (by decide)
theorem sn_113 (hw : ∀ d ∈ tables_1, d.before a0 Z = true) : Jvm.RoadKit.slotOf Z oc0 "height" "[B" ≠ Jvm.RoadKit.slotOf Z oc0 "children" "[[I" := slot_ne (C := oc1) (Or.inr (own_w hw 38 rfl)) (Or.inr (own_w hw 35 rfl)) (by decide) (t := (.array .byte)) (t' := (.array (.array .int))) (by decide) (by decide)
theorem sn_114 (hw : ∀ d ∈ tables_1, d.before a0 Z = true) : Jvm.RoadKit.slotOf Z oc1 "plannedEnd" "[J" ≠ Jvm.RoadKit.slotOf Z oc0 "children" "[[I" := slot_ne (C := oc1) (Or.inr (own_w hw 41 rfl)) (Or.inr (own_w hw 35 rfl)) (by decide) (t := (.array .long)) (t' := (.array (.array .int))) (by decide) (by decide)
theorem sn_115 (hw : ∀ d ∈ tables_1, d.before a0 Z = true) : Jvm.RoadKit.slotOf Z oc1 "processors" "[J" ≠ Jvm.RoadKit.slotOf Z oc0 "children" "[[I" := slot_ne (C := oc1) (Or.inr (own_w hw 43 rfl)) (Or.inr (own_w hw 35 rfl)) (by decide) (t := (.array .long)) (t' := (.array (.array .int))) (by decide) (by decide)
theorem sn_116 (hw : ∀ d ∈ tables_1, d.before a0 Z = true) : Jvm.RoadKit.slotOf Z oc1 "below" "[J" ≠ Jvm.RoadKit.slotOf Z oc0 "children" "[[I" := slot_ne (C := oc1) (Or.inr (own_w hw 45 rfl)) (Or.inr (own_w hw 35 rfl)) (by decide) (t := (.array .long)) (t' := (.array (.array .int))) (by decide) (by decide)
theorem sn_117 (hw : ∀ d ∈ tables_1, d.before a0 Z = true) : Jvm.RoadKit.slotOf Z oc0 "root" "I" ≠ Jvm.RoadKit.slotOf Z oc0 "height" "[B" := slot_ne (C := oc1) (Or.inl (own_w hw 15 rfl)) (Or.inr (own_w hw 38 rfl)) (by decide) (t := .int) (t' := (.array .byte)) (by decide) (by decide)
theorem sn_118 (hw : ∀ d ∈ tables_1, d.before a0 Z = true) : Jvm.RoadKit.slotOf Z oc0 "unused" "I" ≠ Jvm.RoadKit.slotOf Z oc0 "height" "[B" := slot_ne (C := oc1) (Or.inl (own_w hw 26 rfl)) (Or.inr (own_w hw 38 rfl)) (by decide) (t := .int) (t' := (.array .byte)) (by decide) (by decide)
theorem sn_119 (hw : ∀ d ∈ tables_1, d.before a0 Z = true) : Jvm.RoadKit.slotOf Z oc0 "held" "I" ≠ Jvm.RoadKit.slotOf Z oc0 "height" "[B" := slot_ne (C := oc1) (Or.inl (own_w hw 69 rfl)) (Or.inr (own_w hw 38 rfl)) (by decide) (t := .int) (t' := (.array .byte)) (by decide) (by decide)
theorem sn_120 (hw : ∀ d ∈ tables_1, d.before a0 Z = true) : Jvm.RoadKit.slotOf Z oc0 "path" "[I" ≠ Jvm.RoadKit.slotOf Z oc0 "height" "[B" := slot_ne (C := oc1) (Or.inr (own_w hw 18 rfl)) (Or.inr (own_w hw 38 rfl)) (by decide) (t := (.array .int)) (t' := (.array .byte)) (by decide) (by decide)
theorem sn_121 (hw : ∀ d ∈ tables_1, d.before a0 Z = true) : Jvm.RoadKit.slotOf Z oc0 "sides" "[I" ≠ Jvm.RoadKit.slotOf Z oc0 "height" "[B" := slot_ne (C := oc1) (Or.inr (own_w hw 20 rfl)) (Or.inr (own_w hw 38 rfl)) (by decide) (t := (.array .int)) (t' := (.array .byte)) (by decide) (by decide)
theorem sn_122 (hw : ∀ d ∈ tables_1, d.before a0 Z = true) : Jvm.RoadKit.slotOf Z oc0 "slotOf" "[I" ≠ Jvm.RoadKit.slotOf Z oc0 "height" "[B" := slot_ne (C := oc1) (Or.inr (own_w hw 22 rfl)) (Or.inr (own_w hw 38 rfl)) (by decide) (t := (.array .int)) (t' := (.array .byte)) (by decide) (by decide)
theorem sn_123 (hw : ∀ d ∈ tables_1, d.before a0 Z = true) : Jvm.RoadKit.slotOf Z oc0 "unusedSlots" "[I" ≠ Jvm.RoadKit.slotOf Z oc0 "height" "[B" := slot_ne (C := oc1) (Or.inr (own_w hw 24 rfl)) (Or.inr (own_w hw 38 rfl)) (by decide) (t := (.array .int)) (t' := (.array .byte)) (by decide) (by decide)
theorem sn_124 (hw : ∀ d ∈ tables_1, d.before a0 Z = true) : Jvm.RoadKit.slotOf Z oc0 "left" "[I" ≠ Jvm.RoadKit.slotOf Z oc0 "height" "[B" := slot_ne (C := oc1) (Or.inr (own_w hw 28 rfl)) (Or.inr (own_w hw 38 rfl)) (by decide) (t := (.array .int)) (t' := (.array .byte)) (by decide) (by decide)
theorem sn_125 (hw : ∀ d ∈ tables_1, d.before a0 Z = true) : Jvm.RoadKit.slotOf Z oc0 "right" "[I" ≠ Jvm.RoadKit.slotOf Z oc0 "height" "[B" := slot_ne (C := oc1) (Or.inr (own_w hw 30 rfl)) (Or.inr (own_w hw 38 rfl)) (by decide) (t := (.array .int)) (t' := (.array .byte)) (by decide) (by decide)
theorem sn_126 (hw : ∀ d ∈ tables_1, d.before a0 Z = true) : Jvm.RoadKit.slotOf Z oc0 "children" "[[I" ≠ Jvm.RoadKit.slotOf Z oc0 "height" "[B" := slot_ne (C := oc1) (Or.inr (own_w hw 35 rfl)) (Or.inr (own_w hw 38 rfl)) (by decide) (t := (.array (.array .int))) (t' := (.array .byte)) (by decide) (by decide)
theorem sn_127 (hw : ∀ d ∈ tables_1, d.before a0 Z = true) : Jvm.RoadKit.slotOf Z oc1 "plannedEnd" "[J" ≠ Jvm.RoadKit.slotOf Z oc0 "height" "[B" := slot_ne (C := oc1) (Or.inr (own_w hw 41 rfl)) (Or.inr (own_w hw 38 rfl)) (by decide) (t := (.array .long)) (t' := (.array .byte)) (by decide) (by decide)
theorem sn_128 (hw : ∀ d ∈ tables_1, d.before a0 Z = true) : Jvm.RoadKit.slotOf Z oc1 "processors" "[J" ≠ Jvm.RoadKit.slotOf Z oc0 "height" "[B" := slot_ne (C := oc1) (Or.inr (own_w hw 43 rfl)) (Or.inr (own_w hw 38 rfl)) (by decide) (t := (.array .long)) (t' := (.array .byte)) (by decide) (by decide)
theorem sn_129 (hw : ∀ d ∈ tables_1, d.before a0 Z = true) : Jvm.RoadKit.slotOf Z oc1 "below" "[J" ≠ Jvm.RoadKit.slotOf Z oc0 "height" "[B" := slot_ne (C := oc1) (Or.inr (own_w hw 45 rfl)) (Or.inr (own_w hw 38 rfl)) (by decide) (t := (.array .long)) (t' := (.array .byte)) (by decide) (by decide)
theorem sn_130 (hw : ∀ d ∈ tables_1, d.before a0 Z = true) : Jvm.RoadKit.slotOf Z oc0 "root" "I" ≠ Jvm.RoadKit.slotOf Z oc1 "plannedEnd" "[J" := slot_ne (C := oc1) (Or.inl (own_w hw 15 rfl)) (Or.inr (own_w hw 41 rfl)) (by decide) (t := .int) (t' := (.array .long)) (by decide) (by decide)
theorem sn_131 (hw : ∀ d ∈ tables_1, d.before a0 Z = true) : Jvm.RoadKit.slotOf Z oc0 "unused" "I" ≠ Jvm.RoadKit.slotOf Z oc1 "plannedEnd" "[J" := slot_ne (C := oc1) (Or.inl (own_w hw 26 rfl)) (Or.inr (own_w hw 41 rfl)) (by decide) (t := .int) (t' := (.array .long)) (by decide) (by decide)
theorem sn_132 (hw : ∀ d ∈ tables_1, d.before a0 Z = true) : Jvm.RoadKit.slotOf Z oc0 "held" "I" ≠ Jvm.RoadKit.slotOf Z oc1 "plannedEnd" "[J" := slot_ne (C := oc1) (Or.inl (own_w hw 69 rfl)) (Or.inr (own_w hw 41 rfl)) (by decide) (t := .int) (t' := (.array .long)) (by decide) (by decide)
theorem sn_133 (hw : ∀ d ∈ tables_1, d.before a0 Z = true) : Jvm.RoadKit.slotOf Z oc0 "path" "[I" ≠ Jvm.RoadKit.slotOf Z oc1 "plannedEnd" "[J" := slot_ne (C := oc1) (Or.inr (own_w hw 18 rfl)) (Or.inr (own_w hw 41 rfl)) (by decide) (t := (.array .int)) (t' := (.array .long)) (by decide) (by decide)
theorem sn_134 (hw : ∀ d ∈ tables_1, d.before a0 Z = true) : Jvm.RoadKit.slotOf Z oc0 "sides" "[I" ≠ Jvm.RoadKit.slotOf Z oc1 "plannedEnd" "[J" := slot_ne (C := oc1) (Or.inr (own_w hw 20 rfl)) (Or.inr (own_w hw 41 rfl)) (by decide) (t := (.array .int)) (t' := (.array .long)) (by decide) (by decide)
theorem sn_135 (hw : ∀ d ∈ tables_1, d.before a0 Z = true) : Jvm.RoadKit.slotOf Z oc0 "slotOf" "[I" ≠ Jvm.RoadKit.slotOf Z oc1 "plannedEnd" "[J" := slot_ne (C := oc1) (Or.inr (own_w hw 22 rfl)) (Or.inr (own_w hw 41 rfl)) (by decide) (t := (.array .int)) (t' := (.array .long)) (by decide) (by decide)
theorem sn_136 (hw : ∀ d ∈ tables_1, d.before a0 Z = true) : Jvm.RoadKit.slotOf Z oc0 "unusedSlots" "[I" ≠ Jvm.RoadKit.slotOf Z oc1 "plannedEnd" "[J" := slot_ne (C := oc1) (Or.inr (own_w hw 24 rfl)) (Or.inr (own_w hw 41 rfl)) (by decide) (t := (.array .int)) (t' := (.array .long)) (by decide) (by decide)
theorem sn_137 (hw : ∀ d ∈ tables_1, d.before a0 Z = true) : Jvm.RoadKit.slotOf Z oc0 "left" "[I" ≠ Jvm.RoadKit.slotOf Z oc1 "plannedEnd" "[J" := slot_ne (C := oc1) (Or.inr (own_w hw 28 rfl)) (Or.inr (own_w hw 41 rfl)) (by decide) (t := (.array .int)) (t' := (.array .long)) (by decide) (by decide)
theorem sn_138 (hw : ∀ d ∈ tables_1, d.before a0 Z = true) : Jvm.RoadKit.slotOf Z oc0 "right" "[I" ≠ Jvm.RoadKit.slotOf Z oc1 "plannedEnd" "[J" := slot_ne (C := oc1) (Or.inr (own_w hw 30 rfl)) (Or.inr (own_w hw 41 rfl)) (by decide) (t := (.array .int)) (t' := (.array .long)) (by decide) (by decide)
theorem sn_139 (hw : ∀ d ∈ tables_1, d.before a0 Z = true) : Jvm.RoadKit.slotOf Z oc0 "children" "[[I" ≠ Jvm.RoadKit.slotOf Z oc1 "plannedEnd" "[J" := slot_ne (C := oc1) (Or.inr (own_w hw 35 rfl)) (Or.inr (own_w hw 41 rfl)) (by decide) (t := (.array (.array .int))) (t' := (.array .long)) (by decide) (by decide)
theorem sn_140 (hw : ∀ d ∈ tables_1, d.before a0 Z = true) : Jvm.RoadKit.slotOf Z oc0 "height" "[B" ≠ Jvm.RoadKit.slotOf Z oc1 "plannedEnd" "[J" := slot_ne (C := oc1) (Or.inr (own_w hw 38 rfl)) (Or.inr (own_w hw 41 rfl)) (by decide) (t := (.array .byte)) (t' := (.array .long)) (by decide) (by decide)
theorem sn_141 (hw : ∀ d ∈ tables_1, d.before a0 Z = true) : Jvm.RoadKit.slotOf Z oc1 "processors" "[J" ≠ Jvm.RoadKit.slotOf Z oc1 "plannedEnd" "[J" := slot_ne (C := oc1) (Or.inr (own_w hw 43 rfl)) (Or.inr (own_w hw 41 rfl)) (by decide) (t := (.array .long)) (t' := (.array .long)) (by decide) (by decide)
theorem sn_142 (hw : ∀ d ∈ tables_1, d.before a0 Z = true) : Jvm.RoadKit.slotOf Z oc1 "below" "[J" ≠ Jvm.RoadKit.slotOf Z oc1 "plannedEnd" "[J" := slot_ne (C := oc1) (Or.inr (own_w hw 45 rfl)) (Or.inr (own_w hw 41 rfl)) (by decide) (t := (.array .long)) (t' := (.array .long)) (by decide) (by decide)
theorem sn_143 (hw : ∀ d ∈ tables_1, d.before a0 Z = true) : Jvm.RoadKit.slotOf Z oc0 "root" "I" ≠ Jvm.RoadKit.slotOf Z oc1 "processors" "[J" := slot_ne (C := oc1) (Or.inl (own_w hw 15 rfl)) (Or.inr (own_w hw 43 rfl)) (by decide) (t := .int) (t' := (.array .long)) (by decide) (by decide)
theorem sn_144 (hw : ∀ d ∈ tables_1, d.before a0 Z = true) : Jvm.RoadKit.slotOf Z oc0 "unused" "I" ≠ Jvm.RoadKit.slotOf Z oc1 "processors" "[J" := slot_ne (C := oc1) (Or.inl (own_w hw 26 rfl)) (Or.inr (own_w hw 43 rfl)) (by decide) (t := .int) (t' := (.array .long)) (by decide) (by decide)
theorem sn_145 (hw : ∀ d ∈ tables_1, d.before a0 Z = true) : Jvm.RoadKit.slotOf Z oc0 "held" "I" ≠ Jvm.RoadKit.slotOf Z oc1 "processors" "[J" := slot_ne (C := oc1) (Or.inl (own_w hw 69 rfl)) (Or.inr (own_w hw 43 rfl)) (by decide) (t := .int) (t' := (.array .long)) (by decide) (by decide)
theorem sn_146 (hw : ∀ d ∈ tables_1, d.before a0 Z = true) : Jvm.RoadKit.slotOf Z oc0 "path" "[I" ≠ Jvm.RoadKit.slotOf Z oc1 "processors" "[J" := slot_ne (C := oc1) (Or.inr (own_w hw 18 rfl)) (Or.inr (own_w hw 43 rfl)) (by decide) (t := (.array .int)) (t' := (.array .long)) (by decide) (by decide)
theorem sn_147 (hw : ∀ d ∈ tables_1, d.before a0 Z = true) : Jvm.RoadKit.slotOf Z oc0 "sides" "[I" ≠ Jvm.RoadKit.slotOf Z oc1 "processors" "[J" := slot_ne (C := oc1) (Or.inr (own_w hw 20 rfl)) (Or.inr (own_w hw 43 rfl)) (by decide) (t := (.array .int)) (t' := (.array .long)) (by decide) (by decide)
theorem sn_148 (hw : ∀ d ∈ tables_1, d.before a0 Z = true) : Jvm.RoadKit.slotOf Z oc0 "slotOf" "[I" ≠ Jvm.RoadKit.slotOf Z oc1 "processors" "[J" := slot_ne (C := oc1) (Or.inr (own_w hw 22 rfl)) (Or.inr (own_w hw 43 rfl)) (by decide) (t := (.array .int)) (t' := (.array .long)) (by decide) (by decide)
theorem sn_149 (hw : ∀ d ∈ tables_1, d.before a0 Z = true) : Jvm.RoadKit.slotOf Z oc0 "unusedSlots" "[I" ≠ Jvm.RoadKit.slotOf Z oc1 "processors" "[J" := slot_ne (C := oc1) (Or.inr (own_w hw 24 rfl)) (Or.inr (own_w hw 43 rfl)) (by decide) (t := (.array .int)) (t' := (.array .long)) (by decide) (by decide)
theorem sn_150 (hw : ∀ d ∈ tables_1, d.before a0 Z = true) : Jvm.RoadKit.slotOf Z oc0 "left" "[I" ≠ Jvm.RoadKit.slotOf Z oc1 "processors" "[J" := slot_ne (C := oc1) (Or.inr (own_w hw 28 rfl)) (Or.inr (own_w hw 43 rfl)) (by decide) (t := (.array .int)) (t' := (.array .long)) (by decide) (by decide)
theorem sn_151 (hw : ∀ d ∈ tables_1, d.before a0 Z = true) : Jvm.RoadKit.slotOf Z oc0 "right" "[I" ≠ Jvm.RoadKit.slotOf Z oc1 "processors" "[J" := slot_ne (C := oc1) (Or.inr (own_w hw 30 rfl)) (Or.inr (own_w hw 43 rfl)) (by decide) (t := (.array .int)) (t' := (.array .long)) (by decide) (by decide)
theorem sn_152 (hw : ∀ d ∈ tables_1, d.before a0 Z = true) : Jvm.RoadKit.slotOf Z oc0 "children" "[[I" ≠ Jvm.RoadKit.slotOf Z oc1 "processors" "[J" := slot_ne (C := oc1) (Or.inr (own_w hw 35 rfl)) (Or.inr (own_w hw 43 rfl)) (by decide) (t := (.array (.array .int))) (t' := (.array .long)) (by decide) (by decide)
theorem sn_153 (hw : ∀ d ∈ tables_1, d.before a0 Z = true) : Jvm.RoadKit.slotOf Z oc0 "height" "[B" ≠ Jvm.RoadKit.slotOf Z oc1 "processors" "[J" := slot_ne (C := oc1) (Or.inr (own_w hw 38 rfl)) (Or.inr (own_w hw 43 rfl)) (by decide) (t := (.array .byte)) (t' := (.array .long)) (by decide) (by decide)
theorem sn_154 (hw : ∀ d ∈ tables_1, d.before a0 Z = true) : Jvm.RoadKit.slotOf Z oc1 "plannedEnd" "[J" ≠ Jvm.RoadKit.slotOf Z oc1 "processors" "[J" := slot_ne (C := oc1) (Or.inr (own_w hw 41 rfl)) (Or.inr (own_w hw 43 rfl)) (by decide) (t := (.array .long)) (t' := (.array .long)) (by decide) (by decide)
theorem sn_155 (hw : ∀ d ∈ tables_1, d.before a0 Z = true) : Jvm.RoadKit.slotOf Z oc1 "below" "[J" ≠ Jvm.RoadKit.slotOf Z oc1 "processors" "[J" := slot_ne (C := oc1) (Or.inr (own_w hw 45 rfl)) (Or.inr (own_w hw 43 rfl)) (by decide) (t := (.array .long)) (t' := (.array .long)) (by decide) (by decide)
theorem sn_156 (hw : ∀ d ∈ tables_1, d.before a0 Z = true) : Jvm.RoadKit.slotOf Z oc0 "root" "I" ≠ Jvm.RoadKit.slotOf Z oc1 "below" "[J" := slot_ne (C := oc1) (Or.inl (own_w hw 15 rfl)) (Or.inr (own_w hw 45 rfl)) (by decide) (t := .int) (t' := (.array .long)) (by decide) (by decide)
theorem sn_157 (hw : ∀ d ∈ tables_1, d.before a0 Z = true) : Jvm.RoadKit.slotOf Z oc0 "unused" "I" ≠ Jvm.RoadKit.slotOf Z oc1 "below" "[J" := slot_ne (C := oc1) (Or.inl (own_w hw 26 rfl)) (Or.inr (own_w hw 45 rfl)) (by decide) (t := .int) (t' := (.array .long)) (by decide) (by decide)
theorem sn_158 (hw : ∀ d ∈ tables_1, d.before a0 Z = true) : Jvm.RoadKit.slotOf Z oc0 "held" "I" ≠ Jvm.RoadKit.slotOf Z oc1 "below" "[J" := slot_ne (C := oc1) (Or.inl (own_w hw 69 rfl)) (Or.inr (own_w hw 45 rfl)) (by decide) (t := .int) (t' := (.array .long)) (by decide) (by decide)
theorem sn_159 (hw : ∀ d ∈ tables_1, d.before a0 Z = true) : Jvm.RoadKit.slotOf Z oc0 "path" "[I" ≠ Jvm.RoadKit.slotOf Z oc1 "below" "[J" := slot_ne (C := oc1) (Or.inr (own_w hw 18 rfl)) (Or.inr (own_w hw 45 rfl)) (by decide) (t := (.array .int)) (t' := (.array .long)) (by decide) (by decide)
theorem sn_160 (hw : ∀ d ∈ tables_1, d.before a0 Z = true) : Jvm.RoadKit.slotOf Z oc0 "sides" "[I" ≠ Jvm.RoadKit.slotOf Z oc1 "below" "[J" := slot_ne (C := oc1) (Or.inr (own_w hw 20 rfl)) (Or.inr (own_w hw 45 rfl)) (by decide) (t := (.array .int)) (t' := (.array .long)) (by decide) (by decide)
theorem sn_161 (hw : ∀ d ∈ tables_1, d.before a0 Z = true) : Jvm.RoadKit.slotOf Z oc0 "slotOf" "[I" ≠ Jvm.RoadKit.slotOf Z oc1 "below" "[J" := slot_ne (C := oc1) (Or.inr (own_w hw 22 rfl)) (Or.inr (own_w hw 45 rfl)) (by decide) (t := (.array .int)) (t' := (.array .long)) (by decide) (by decide)
theorem sn_162 (hw : ∀ d ∈ tables_1, d.before a0 Z = true) : Jvm.RoadKit.slotOf Z oc0 "unusedSlots" "[I" ≠ Jvm.RoadKit.slotOf Z oc1 "below" "[J" := slot_ne (C := oc1) (Or.inr (own_w hw 24 rfl)) (Or.inr (own_w hw 45 rfl)) (by decide) (t := (.array .int)) (t' := (.array .long)) (by decide) (by decide)
theorem sn_163 (hw : ∀ d ∈ tables_1, d.before a0 Z = true) : Jvm.RoadKit.slotOf Z oc0 "left" "[I" ≠ Jvm.RoadKit.slotOf Z oc1 "below" "[J" := slot_ne (C := oc1) (Or.inr (own_w hw 28 rfl)) (Or.inr (own_w hw 45 rfl)) (by decide) (t := (.array .int)) (t' := (.array .long)) (by decide) (by decide)
theorem sn_164 (hw : ∀ d ∈ tables_1, d.before a0 Z = true) : Jvm.RoadKit.slotOf Z oc0 "right" "[I" ≠ Jvm.RoadKit.slotOf Z oc1 "below" "[J" := slot_ne (C := oc1) (Or.inr (own_w hw 30 rfl)) (Or.inr (own_w hw 45 rfl)) (by decide) (t := (.array .int)) (t' := (.array .long)) (by decide) (by decide)
theorem sn_165 (hw : ∀ d ∈ tables_1, d.before a0 Z = true) : Jvm.RoadKit.slotOf Z oc0 "children" "[[I" ≠ Jvm.RoadKit.slotOf Z oc1 "below" "[J" := slot_ne (C := oc1) (Or.inr (own_w hw 35 rfl)) (Or.inr (own_w hw 45 rfl)) (by decide) (t := (.array (.array .int))) (t' := (.array .long)) (by decide) (by decide)
theorem sn_166 (hw : ∀ d ∈ tables_1, d.before a0 Z = true) : Jvm.RoadKit.slotOf Z oc0 "height" "[B" ≠ Jvm.RoadKit.slotOf Z oc1 "below" "[J" := slot_ne (C := oc1) (Or.inr (own_w hw 38 rfl)) (Or.inr (own_w hw 45 rfl)) (by decide) (t := (.array .byte)) (t' := (.array .long)) (by decide) (by decide)
theorem sn_167 (hw : ∀ d ∈ tables_1, d.before a0 Z = true) : Jvm.RoadKit.slotOf Z oc1 "plannedEnd" "[J" ≠ Jvm.RoadKit.slotOf Z oc1 "below" "[J" := slot_ne (C := oc1) (Or.inr (own_w hw 41 rfl)) (Or.inr (own_w hw 45 rfl)) (by decide) (t := (.array .long)) (t' := (.array .long)) (by decide) (by decide)
theorem sn_168 (hw : ∀ d ∈ tables_1, d.before a0 Z = true) : Jvm.RoadKit.slotOf Z oc1 "processors" "[J" ≠ Jvm.RoadKit.slotOf Z oc1 "below" "[J" := slot_ne (C := oc1) (Or.inr (own_w hw 43 rfl)) (Or.inr (own_w hw 45 rfl)) (by decide) (t := (.array .long)) (t' := (.array .long)) (by decide) (by decide)
theorem sn_169 (hw : ∀ d ∈ tables_1, d.before a0 Z = true) : Jvm.RoadKit.slotOf Z oc0 "root" "I" ≠ Jvm.RoadKit.slotOf Z oc0 "held" "I" := slot_ne (C := oc1) (Or.inl (own_w hw 15 rfl)) (Or.inl (own_w hw 69 rfl)) (by decide) (t := .int) (t' := .int) (by decide) (by decide)
theorem sn_170 (hw : ∀ d ∈ tables_1, d.before a0 Z = true) : Jvm.RoadKit.slotOf Z oc0 "unused" "I" ≠ Jvm.RoadKit.slotOf Z oc0 "held" "I" := slot_ne (C := oc1) (Or.inl (own_w hw 26 rfl)) (Or.inl (own_w hw 69 rfl)) (by decide) (t := .int) (t' := .int) (by decide) (by decide)
theorem sn_171 (hw : ∀ d ∈ tables_1, d.before a0 Z = true) : Jvm.RoadKit.slotOf Z oc0 "path" "[I" ≠ Jvm.RoadKit.slotOf Z oc0 "held" "I" := slot_ne (C := oc1) (Or.inr (own_w hw 18 rfl)) (Or.inl (own_w hw 69 rfl)) (by decide) (t := (.array .int)) (t' := .int) (by decide) (by decide)
theorem sn_172 (hw : ∀ d ∈ tables_1, d.before a0 Z = true) : Jvm.RoadKit.slotOf Z oc0 "sides" "[I" ≠ Jvm.RoadKit.slotOf Z oc0 "held" "I" := slot_ne (C := oc1) (Or.inr (own_w hw 20 rfl)) (Or.inl (own_w hw 69 rfl)) (by decide) (t := (.array .int)) (t' := .int) (by decide) (by decide)
theorem sn_173 (hw : ∀ d ∈ tables_1, d.before a0 Z = true) : Jvm.RoadKit.slotOf Z oc0 "slotOf" "[I" ≠ Jvm.RoadKit.slotOf Z oc0 "held" "I" := slot_ne (C := oc1) (Or.inr (own_w hw 22 rfl)) (Or.inl (own_w hw 69 rfl)) (by decide) (t := (.array .int)) (t' := .int) (by decide) (by decide)
theorem sn_174 (hw : ∀ d ∈ tables_1, d.before a0 Z = true) : Jvm.RoadKit.slotOf Z oc0 "unusedSlots" "[I" ≠ Jvm.RoadKit.slotOf Z oc0 "held" "I" := slot_ne (C := oc1) (Or.inr (own_w hw 24 rfl)) (Or.inl (own_w hw 69 rfl)) (by decide) (t := (.array .int)) (t' := .int) (by decide) (by decide)
theorem sn_175 (hw : ∀ d ∈ tables_1, d.before a0 Z = true) : Jvm.RoadKit.slotOf Z oc0 "left" "[I" ≠ Jvm.RoadKit.slotOf Z oc0 "held" "I" := slot_ne (C := oc1) (Or.inr (own_w hw 28 rfl)) (Or.inl (own_w hw 69 rfl)) (by decide) (t := (.array .int)) (t' := .int) (by decide) (by decide)
theorem sn_176 (hw : ∀ d ∈ tables_1, d.before a0 Z = true) : Jvm.RoadKit.slotOf Z oc0 "right" "[I" ≠ Jvm.RoadKit.slotOf Z oc0 "held" "I" := slot_ne (C := oc1) (Or.inr (own_w hw 30 rfl)) (Or.inl (own_w hw 69 rfl)) (by decide) (t := (.array .int)) (t' := .int) (by decide) (by decide)
theorem sn_177 (hw : ∀ d ∈ tables_1, d.before a0 Z = true) : Jvm.RoadKit.slotOf Z oc0 "children" "[[I" ≠ Jvm.RoadKit.slotOf Z oc0 "held" "I" := slot_ne (C := oc1) (Or.inr (own_w hw 35 rfl)) (Or.inl (own_w hw 69 rfl)) (by decide) (t := (.array (.array .int))) (t' := .int) (by decide) (by decide)
theorem sn_178 (hw : ∀ d ∈ tables_1, d.before a0 Z = true) : Jvm.RoadKit.slotOf Z oc0 "height" "[B" ≠ Jvm.RoadKit.slotOf Z oc0 "held" "I" := slot_ne (C := oc1) (Or.inr (own_w hw 38 rfl)) (Or.inl (own_w hw 69 rfl)) (by decide) (t := (.array .byte)) (t' := .int) (by decide) (by decide)
theorem sn_179 (hw : ∀ d ∈ tables_1, d.before a0 Z = true) : Jvm.RoadKit.slotOf Z oc1 "plannedEnd" "[J" ≠ Jvm.RoadKit.slotOf Z oc0 "held" "I" := slot_ne (C := oc1) (Or.inr (own_w hw 41 rfl)) (Or.inl (own_w hw 69 rfl)) (by decide) (t := (.array .long)) (t' := .int) (by decide) (by decide)
theorem sn_180 (hw : ∀ d ∈ tables_1, d.before a0 Z = true) : Jvm.RoadKit.slotOf Z oc1 "processors" "[J" ≠ Jvm.RoadKit.slotOf Z oc0 "held" "I" := slot_ne (C := oc1) (Or.inr (own_w hw 43 rfl)) (Or.inl (own_w hw 69 rfl)) (by decide) (t := (.array .long)) (t' := .int) (by decide) (by decide)
theorem sn_181 (hw : ∀ d ∈ tables_1, d.before a0 Z = true) : Jvm.RoadKit.slotOf Z oc1 "below" "[J" ≠ Jvm.RoadKit.slotOf Z oc0 "held" "I" := slot_ne (C := oc1) (Or.inr (own_w hw 45 rfl)) (Or.inl (own_w hw 69 rfl)) (by decide) (t := (.array .long)) (t' := .int) (by decide) (by decide)
end OwnSn
theorem own_isl {args : Array Value} {first s : State} {o : Option Outcome} {idx : List Nat} {t : Term} (h : (Cond.isLong t).value args first o s idx = some true) : ∃ x, t.eval args first o idx s = some (.long x) := isL_v h
theorem d1_0 : decode prog_66_method_1_code 0 = .ok (.aload_n 0, 1) := by decide +kernel
theorem d1_1 : decode prog_66_method_1_code 1 = .ok (.iload_n 1, 1) := by decide +kernel
theorem d1_2 : decode prog_66_method_1_code 2 = .ok (.iload_n 2, 1) := by decide +kernel
theorem d1_3 : decode prog_66_method_1_code 3 = .ok (.invokespecial 1, 3) := by decide +kernel
theorem d1_6 : decode prog_66_method_1_code 6 = .ok (.aload_n 0, 1) := by decide +kernel
theorem d1_7 : decode prog_66_method_1_code 7 = .ok (.iload_n 2, 1) := by decide +kernel
theorem d1_8 : decode prog_66_method_1_code 8 = .ok (.newarray .long, 2) := by decide +kernel
theorem d1_10 : decode prog_66_method_1_code 10 = .ok (.putfield 7, 3) := by decide +kernel
theorem d1_13 : decode prog_66_method_1_code 13 = .ok (.aload_n 0, 1) := by decide +kernel
theorem d1_14 : decode prog_66_method_1_code 14 = .ok (.iload_n 2, 1) := by decide +kernel
theorem d1_15 : decode prog_66_method_1_code 15 = .ok (.newarray .long, 2) := by decide +kernel
theorem d1_17 : decode prog_66_method_1_code 17 = .ok (.putfield 13, 3) := by decide +kernel
theorem d1_20 : decode prog_66_method_1_code 20 = .ok (.aload_n 0, 1) := by decide +kernel
theorem d1_21 : decode prog_66_method_1_code 21 = .ok (.iload_n 2, 1) := by decide +kernel
theorem d1_22 : decode prog_66_method_1_code 22 = .ok (.newarray .long, 2) := by decide +kernel
theorem d1_24 : decode prog_66_method_1_code 24 = .ok (.putfield 16, 3) := by decide +kernel
theorem d1_27 : decode prog_66_method_1_code 27 = .ok (.return_, 1) := by decide +kernel
theorem d2_0 : decode prog_49_method_1_code 0 = .ok (.aload_n 0, 1) := by decide +kernel
theorem d2_1 : decode prog_49_method_1_code 1 = .ok (.invokespecial 1, 3) := by decide +kernel
theorem d2_4 : decode prog_49_method_1_code 4 = .ok (.aload_n 0, 1) := by decide +kernel
theorem d2_5 : decode prog_49_method_1_code 5 = .ok (.iconst (-1), 1) := by decide +kernel
theorem d2_6 : decode prog_49_method_1_code 6 = .ok (.putfield 9, 3) := by decide +kernel
theorem d2_9 : decode prog_49_method_1_code 9 = .ok (.aload_n 0, 1) := by decide +kernel
theorem d2_10 : decode prog_49_method_1_code 10 = .ok (.bipush 127, 2) := by decide +kernel
theorem d2_12 : decode prog_49_method_1_code 12 = .ok (.newarray .int, 2) := by decide +kernel
theorem d2_14 : decode prog_49_method_1_code 14 = .ok (.putfield 15, 3) := by decide +kernel
theorem d2_17 : decode prog_49_method_1_code 17 = .ok (.aload_n 0, 1) := by decide +kernel
theorem d2_18 : decode prog_49_method_1_code 18 = .ok (.bipush 127, 2) := by decide +kernel
theorem d2_20 : decode prog_49_method_1_code 20 = .ok (.newarray .int, 2) := by decide +kernel
theorem d2_22 : decode prog_49_method_1_code 22 = .ok (.putfield 19, 3) := by decide +kernel
theorem d2_25 : decode prog_49_method_1_code 25 = .ok (.aload_n 0, 1) := by decide +kernel
theorem d2_26 : decode prog_49_method_1_code 26 = .ok (.iload_n 1, 1) := by decide +kernel
theorem d2_27 : decode prog_49_method_1_code 27 = .ok (.newarray .int, 2) := by decide +kernel
theorem d2_29 : decode prog_49_method_1_code 29 = .ok (.putfield 22, 3) := by decide +kernel
theorem d2_32 : decode prog_49_method_1_code 32 = .ok (.aload_n 0, 1) := by decide +kernel
theorem d2_33 : decode prog_49_method_1_code 33 = .ok (.iload_n 2, 1) := by decide +kernel
theorem d2_34 : decode prog_49_method_1_code 34 = .ok (.newarray .int, 2) := by decide +kernel
theorem d2_36 : decode prog_49_method_1_code 36 = .ok (.putfield 25, 3) := by decide +kernel
theorem d2_39 : decode prog_49_method_1_code 39 = .ok (.iconst 0, 1) := by decide +kernel
theorem d2_40 : decode prog_49_method_1_code 40 = .ok (.istore_n 3, 1) := by decide +kernel
theorem d2_41 : decode prog_49_method_1_code 41 = .ok (.iload_n 3, 1) := by decide +kernel
theorem d2_42 : decode prog_49_method_1_code 42 = .ok (.iload_n 2, 1) := by decide +kernel
theorem d2_43 : decode prog_49_method_1_code 43 = .ok (.if_icmp .ge 20, 3) := by decide +kernel
theorem d2_46 : decode prog_49_method_1_code 46 = .ok (.aload_n 0, 1) := by decide +kernel
theorem d2_47 : decode prog_49_method_1_code 47 = .ok (.getfield 25, 3) := by decide +kernel
theorem d2_50 : decode prog_49_method_1_code 50 = .ok (.iload_n 3, 1) := by decide +kernel
theorem d2_51 : decode prog_49_method_1_code 51 = .ok (.iload_n 2, 1) := by decide +kernel
theorem d2_52 : decode prog_49_method_1_code 52 = .ok (.iconst 1, 1) := by decide +kernel
theorem d2_53 : decode prog_49_method_1_code 53 = .ok (.isub, 1) := by decide +kernel
theorem d2_54 : decode prog_49_method_1_code 54 = .ok (.iload_n 3, 1) := by decide +kernel
theorem d2_55 : decode prog_49_method_1_code 55 = .ok (.isub, 1) := by decide +kernel
theorem d2_56 : decode prog_49_method_1_code 56 = .ok (.iastore, 1) := by decide +kernel
theorem d2_57 : decode prog_49_method_1_code 57 = .ok (.iinc 3 1, 3) := by decide +kernel
theorem d2_60 : decode prog_49_method_1_code 60 = .ok (.goto (-19), 3) := by decide +kernel
theorem d2_63 : decode prog_49_method_1_code 63 = .ok (.aload_n 0, 1) := by decide +kernel
theorem d2_64 : decode prog_49_method_1_code 64 = .ok (.iload_n 2, 1) := by decide +kernel
theorem d2_65 : decode prog_49_method_1_code 65 = .ok (.putfield 28, 3) := by decide +kernel
theorem d2_68 : decode prog_49_method_1_code 68 = .ok (.aload_n 0, 1) := by decide +kernel
theorem d2_69 : decode prog_49_method_1_code 69 = .ok (.iload_n 2, 1) := by decide +kernel
theorem d2_70 : decode prog_49_method_1_code 70 = .ok (.newarray .int, 2) := by decide +kernel
theorem d2_72 : decode prog_49_method_1_code 72 = .ok (.putfield 31, 3) := by decide +kernel
theorem d2_75 : decode prog_49_method_1_code 75 = .ok (.aload_n 0, 1) := by decide +kernel
theorem d2_76 : decode prog_49_method_1_code 76 = .ok (.iload_n 2, 1) := by decide +kernel
theorem d2_77 : decode prog_49_method_1_code 77 = .ok (.newarray .int, 2) := by decide +kernel
theorem d2_79 : decode prog_49_method_1_code 79 = .ok (.putfield 34, 3) := by decide +kernel
theorem d2_82 : decode prog_49_method_1_code 82 = .ok (.aload_n 0, 1) := by decide +kernel
theorem d2_83 : decode prog_49_method_1_code 83 = .ok (.iconst 2, 1) := by decide +kernel
theorem d2_84 : decode prog_49_method_1_code 84 = .ok (.anewarray 37, 3) := by decide +kernel
theorem d2_87 : decode prog_49_method_1_code 87 = .ok (.dup, 1) := by decide +kernel
theorem d2_88 : decode prog_49_method_1_code 88 = .ok (.iconst 0, 1) := by decide +kernel
theorem d2_89 : decode prog_49_method_1_code 89 = .ok (.aload_n 0, 1) := by decide +kernel
theorem d2_90 : decode prog_49_method_1_code 90 = .ok (.getfield 31, 3) := by decide +kernel
theorem d2_93 : decode prog_49_method_1_code 93 = .ok (.aastore, 1) := by decide +kernel
theorem d2_94 : decode prog_49_method_1_code 94 = .ok (.dup, 1) := by decide +kernel
theorem d2_95 : decode prog_49_method_1_code 95 = .ok (.iconst 1, 1) := by decide +kernel
theorem d2_96 : decode prog_49_method_1_code 96 = .ok (.aload_n 0, 1) := by decide +kernel
theorem d2_97 : decode prog_49_method_1_code 97 = .ok (.getfield 34, 3) := by decide +kernel
theorem d2_100 : decode prog_49_method_1_code 100 = .ok (.aastore, 1) := by decide +kernel
theorem d2_101 : decode prog_49_method_1_code 101 = .ok (.putfield 38, 3) := by decide +kernel
theorem d2_104 : decode prog_49_method_1_code 104 = .ok (.aload_n 0, 1) := by decide +kernel
theorem d2_105 : decode prog_49_method_1_code 105 = .ok (.iload_n 2, 1) := by decide +kernel
theorem d2_106 : decode prog_49_method_1_code 106 = .ok (.newarray .byte, 2) := by decide +kernel
theorem d2_108 : decode prog_49_method_1_code 108 = .ok (.putfield 42, 3) := by decide +kernel
theorem d2_111 : decode prog_49_method_1_code 111 = .ok (.return_, 1) := by decide +kernel
theorem d4_0 : decode prog_66_method_2_code 0 = .ok (.aload_n 0, 1) := by decide +kernel
theorem d4_1 : decode prog_66_method_2_code 1 = .ok (.iload_n 1, 1) := by decide +kernel
theorem d4_2 : decode prog_66_method_2_code 2 = .ok (.invokevirtual 19, 3) := by decide +kernel
theorem d4_5 : decode prog_66_method_2_code 5 = .ok (.istore 6, 2) := by decide +kernel
theorem d4_7 : decode prog_66_method_2_code 7 = .ok (.aload_n 0, 1) := by decide +kernel
theorem d4_8 : decode prog_66_method_2_code 8 = .ok (.getfield 7, 3) := by decide +kernel
theorem d4_11 : decode prog_66_method_2_code 11 = .ok (.iload 6, 2) := by decide +kernel
theorem d4_13 : decode prog_66_method_2_code 13 = .ok (.lload_n 2, 1) := by decide +kernel
theorem d4_14 : decode prog_66_method_2_code 14 = .ok (.lastore, 1) := by decide +kernel
theorem d4_15 : decode prog_66_method_2_code 15 = .ok (.aload_n 0, 1) := by decide +kernel
theorem d4_16 : decode prog_66_method_2_code 16 = .ok (.getfield 13, 3) := by decide +kernel
theorem d4_19 : decode prog_66_method_2_code 19 = .ok (.iload 6, 2) := by decide +kernel
theorem d4_21 : decode prog_66_method_2_code 21 = .ok (.lload 4, 2) := by decide +kernel
theorem d4_23 : decode prog_66_method_2_code 23 = .ok (.lastore, 1) := by decide +kernel
theorem d4_24 : decode prog_66_method_2_code 24 = .ok (.aload_n 0, 1) := by decide +kernel
theorem d4_25 : decode prog_66_method_2_code 25 = .ok (.iload 6, 2) := by decide +kernel
theorem d4_27 : decode prog_66_method_2_code 27 = .ok (.invokevirtual 23, 3) := by decide +kernel
theorem d4_30 : decode prog_66_method_2_code 30 = .ok (.return_, 1) := by decide +kernel
theorem d5_0 : decode prog_49_method_10_code 0 = .ok (.aload_n 0, 1) := by decide +kernel
theorem d5_1 : decode prog_49_method_10_code 1 = .ok (.invokevirtual 50, 3) := by decide +kernel
theorem d5_4 : decode prog_49_method_10_code 4 = .ok (.istore_n 2, 1) := by decide +kernel
theorem d5_5 : decode prog_49_method_10_code 5 = .ok (.aload_n 0, 1) := by decide +kernel
theorem d5_6 : decode prog_49_method_10_code 6 = .ok (.getfield 22, 3) := by decide +kernel
theorem d5_9 : decode prog_49_method_10_code 9 = .ok (.iload_n 1, 1) := by decide +kernel
theorem d5_10 : decode prog_49_method_10_code 10 = .ok (.iload_n 2, 1) := by decide +kernel
theorem d5_11 : decode prog_49_method_10_code 11 = .ok (.iastore, 1) := by decide +kernel
theorem d5_12 : decode prog_49_method_10_code 12 = .ok (.iload_n 2, 1) := by decide +kernel
theorem d5_13 : decode prog_49_method_10_code 13 = .ok (.ireturn, 1) := by decide +kernel
theorem d6_0 : decode prog_49_method_11_code 0 = .ok (.aload_n 0, 1) := by decide +kernel
theorem d6_1 : decode prog_49_method_11_code 1 = .ok (.getfield 25, 3) := by decide +kernel
theorem d6_4 : decode prog_49_method_11_code 4 = .ok (.aload_n 0, 1) := by decide +kernel
theorem d6_5 : decode prog_49_method_11_code 5 = .ok (.dup, 1) := by decide +kernel
theorem d6_6 : decode prog_49_method_11_code 6 = .ok (.getfield 28, 3) := by decide +kernel
theorem d6_9 : decode prog_49_method_11_code 9 = .ok (.iconst 1, 1) := by decide +kernel
theorem d6_10 : decode prog_49_method_11_code 10 = .ok (.isub, 1) := by decide +kernel
theorem d6_11 : decode prog_49_method_11_code 11 = .ok (.dup_x1, 1) := by decide +kernel
theorem d6_12 : decode prog_49_method_11_code 12 = .ok (.putfield 28, 3) := by decide +kernel
theorem d6_15 : decode prog_49_method_11_code 15 = .ok (.iaload, 1) := by decide +kernel
theorem d6_16 : decode prog_49_method_11_code 16 = .ok (.istore_n 1, 1) := by decide +kernel
theorem d6_17 : decode prog_49_method_11_code 17 = .ok (.aload_n 0, 1) := by decide +kernel
theorem d6_18 : decode prog_49_method_11_code 18 = .ok (.getfield 31, 3) := by decide +kernel
theorem d6_21 : decode prog_49_method_11_code 21 = .ok (.iload_n 1, 1) := by decide +kernel
theorem d6_22 : decode prog_49_method_11_code 22 = .ok (.iconst (-1), 1) := by decide +kernel
theorem d6_23 : decode prog_49_method_11_code 23 = .ok (.iastore, 1) := by decide +kernel
theorem d6_24 : decode prog_49_method_11_code 24 = .ok (.aload_n 0, 1) := by decide +kernel
theorem d6_25 : decode prog_49_method_11_code 25 = .ok (.getfield 34, 3) := by decide +kernel
theorem d6_28 : decode prog_49_method_11_code 28 = .ok (.iload_n 1, 1) := by decide +kernel
theorem d6_29 : decode prog_49_method_11_code 29 = .ok (.iconst (-1), 1) := by decide +kernel
theorem d6_30 : decode prog_49_method_11_code 30 = .ok (.iastore, 1) := by decide +kernel
theorem d6_31 : decode prog_49_method_11_code 31 = .ok (.iload_n 1, 1) := by decide +kernel
theorem d6_32 : decode prog_49_method_11_code 32 = .ok (.ireturn, 1) := by decide +kernel
theorem d7_0 : decode prog_49_method_12_code 0 = .ok (.aload_n 0, 1) := by decide +kernel
theorem d7_1 : decode prog_49_method_12_code 1 = .ok (.dup, 1) := by decide +kernel
theorem d7_2 : decode prog_49_method_12_code 2 = .ok (.getfield 54, 3) := by decide +kernel
theorem d7_5 : decode prog_49_method_12_code 5 = .ok (.iconst 1, 1) := by decide +kernel
theorem d7_6 : decode prog_49_method_12_code 6 = .ok (.iadd, 1) := by decide +kernel
theorem d7_7 : decode prog_49_method_12_code 7 = .ok (.putfield 54, 3) := by decide +kernel
theorem d7_10 : decode prog_49_method_12_code 10 = .ok (.aload_n 0, 1) := by decide +kernel
theorem d7_11 : decode prog_49_method_12_code 11 = .ok (.iload_n 1, 1) := by decide +kernel
theorem d7_12 : decode prog_49_method_12_code 12 = .ok (.invokevirtual 57, 3) := by decide +kernel
theorem d7_15 : decode prog_49_method_12_code 15 = .ok (.aload_n 0, 1) := by decide +kernel
theorem d7_16 : decode prog_49_method_12_code 16 = .ok (.aload_n 0, 1) := by decide +kernel
theorem d7_17 : decode prog_49_method_12_code 17 = .ok (.iconst 0, 1) := by decide +kernel
theorem d7_18 : decode prog_49_method_12_code 18 = .ok (.aload_n 0, 1) := by decide +kernel
theorem d7_19 : decode prog_49_method_12_code 19 = .ok (.iload_n 1, 1) := by decide +kernel
theorem d7_20 : decode prog_49_method_12_code 20 = .ok (.iconst (-1), 1) := by decide +kernel
theorem d7_21 : decode prog_49_method_12_code 21 = .ok (.invokevirtual 61, 3) := by decide +kernel
theorem d7_24 : decode prog_49_method_12_code 24 = .ok (.iload_n 1, 1) := by decide +kernel
theorem d7_25 : decode prog_49_method_12_code 25 = .ok (.invokevirtual 65, 3) := by decide +kernel
theorem d7_28 : decode prog_49_method_12_code 28 = .ok (.putfield 9, 3) := by decide +kernel
theorem d7_31 : decode prog_49_method_12_code 31 = .ok (.return_, 1) := by decide +kernel
theorem d8_0 : decode prog_49_method_27_code 0 = .ok (.aload_n 0, 1) := by decide +kernel
theorem d8_1 : decode prog_49_method_27_code 1 = .ok (.getfield 42, 3) := by decide +kernel
theorem d8_4 : decode prog_49_method_27_code 4 = .ok (.iload_n 1, 1) := by decide +kernel
theorem d8_5 : decode prog_49_method_27_code 5 = .ok (.iconst 1, 1) := by decide +kernel
theorem d8_6 : decode prog_49_method_27_code 6 = .ok (.aload_n 0, 1) := by decide +kernel
theorem d8_7 : decode prog_49_method_27_code 7 = .ok (.aload_n 0, 1) := by decide +kernel
theorem d8_8 : decode prog_49_method_27_code 8 = .ok (.getfield 31, 3) := by decide +kernel
theorem d8_11 : decode prog_49_method_27_code 11 = .ok (.iload_n 1, 1) := by decide +kernel
theorem d8_12 : decode prog_49_method_27_code 12 = .ok (.iaload, 1) := by decide +kernel
theorem d8_13 : decode prog_49_method_27_code 13 = .ok (.invokevirtual 93, 3) := by decide +kernel
theorem d8_16 : decode prog_49_method_27_code 16 = .ok (.aload_n 0, 1) := by decide +kernel
theorem d8_17 : decode prog_49_method_27_code 17 = .ok (.aload_n 0, 1) := by decide +kernel
theorem d8_18 : decode prog_49_method_27_code 18 = .ok (.getfield 34, 3) := by decide +kernel
theorem d8_21 : decode prog_49_method_27_code 21 = .ok (.iload_n 1, 1) := by decide +kernel
theorem d8_22 : decode prog_49_method_27_code 22 = .ok (.iaload, 1) := by decide +kernel
theorem d8_23 : decode prog_49_method_27_code 23 = .ok (.invokevirtual 93, 3) := by decide +kernel
theorem d8_26 : decode prog_49_method_27_code 26 = .ok (.invokestatic 98, 3) := by decide +kernel
theorem d8_29 : decode prog_49_method_27_code 29 = .ok (.iadd, 1) := by decide +kernel
theorem d8_30 : decode prog_49_method_27_code 30 = .ok (.i2b, 1) := by decide +kernel
theorem d8_31 : decode prog_49_method_27_code 31 = .ok (.bastore, 1) := by decide +kernel
theorem d8_32 : decode prog_49_method_27_code 32 = .ok (.aload_n 0, 1) := by decide +kernel
theorem d8_33 : decode prog_49_method_27_code 33 = .ok (.iload_n 1, 1) := by decide +kernel
theorem d8_34 : decode prog_49_method_27_code 34 = .ok (.invokevirtual 82, 3) := by decide +kernel
theorem d8_37 : decode prog_49_method_27_code 37 = .ok (.return_, 1) := by decide +kernel
theorem d9_0 : decode prog_49_method_28_code 0 = .ok (.iload_n 1, 1) := by decide +kernel
theorem d9_1 : decode prog_49_method_28_code 1 = .ok (.iconst (-1), 1) := by decide +kernel
theorem d9_2 : decode prog_49_method_28_code 2 = .ok (.if_icmp .ne 7, 3) := by decide +kernel
theorem d9_5 : decode prog_49_method_28_code 5 = .ok (.iconst 0, 1) := by decide +kernel
theorem d9_6 : decode prog_49_method_28_code 6 = .ok (.goto 9, 3) := by decide +kernel
theorem d9_9 : decode prog_49_method_28_code 9 = .ok (.aload_n 0, 1) := by decide +kernel
theorem d9_10 : decode prog_49_method_28_code 10 = .ok (.getfield 42, 3) := by decide +kernel
theorem d9_13 : decode prog_49_method_28_code 13 = .ok (.iload_n 1, 1) := by decide +kernel
theorem d9_14 : decode prog_49_method_28_code 14 = .ok (.baload, 1) := by decide +kernel
theorem d9_15 : decode prog_49_method_28_code 15 = .ok (.ireturn, 1) := by decide +kernel
theorem d10_0 : decode jdk_29_method_65_code 0 = .ok (.iload_n 0, 1) := by decide +kernel
theorem d10_1 : decode jdk_29_method_65_code 1 = .ok (.iload_n 1, 1) := by decide +kernel
theorem d10_2 : decode jdk_29_method_65_code 2 = .ok (.if_icmp .lt 7, 3) := by decide +kernel
theorem d10_5 : decode jdk_29_method_65_code 5 = .ok (.iload_n 0, 1) := by decide +kernel
theorem d10_6 : decode jdk_29_method_65_code 6 = .ok (.goto 4, 3) := by decide +kernel
theorem d10_9 : decode jdk_29_method_65_code 9 = .ok (.iload_n 1, 1) := by decide +kernel
theorem d10_10 : decode jdk_29_method_65_code 10 = .ok (.ireturn, 1) := by decide +kernel
theorem d11_0 : decode prog_66_method_8_code 0 = .ok (.aload_n 0, 1) := by decide +kernel
theorem d11_1 : decode prog_66_method_8_code 1 = .ok (.getfield 16, 3) := by decide +kernel
theorem d11_4 : decode prog_66_method_8_code 4 = .ok (.iload_n 1, 1) := by decide +kernel
theorem d11_5 : decode prog_66_method_8_code 5 = .ok (.aload_n 0, 1) := by decide +kernel
theorem d11_6 : decode prog_66_method_8_code 6 = .ok (.aload_n 0, 1) := by decide +kernel
theorem d11_7 : decode prog_66_method_8_code 7 = .ok (.iload_n 1, 1) := by decide +kernel
theorem d11_8 : decode prog_66_method_8_code 8 = .ok (.invokevirtual 34, 3) := by decide +kernel
theorem d11_11 : decode prog_66_method_8_code 11 = .ok (.invokevirtual 37, 3) := by decide +kernel
theorem d11_14 : decode prog_66_method_8_code 14 = .ok (.aload_n 0, 1) := by decide +kernel
theorem d11_15 : decode prog_66_method_8_code 15 = .ok (.getfield 13, 3) := by decide +kernel
theorem d11_18 : decode prog_66_method_8_code 18 = .ok (.iload_n 1, 1) := by decide +kernel
theorem d11_19 : decode prog_66_method_8_code 19 = .ok (.laload, 1) := by decide +kernel
theorem d11_20 : decode prog_66_method_8_code 20 = .ok (.ladd, 1) := by decide +kernel
theorem d11_21 : decode prog_66_method_8_code 21 = .ok (.aload_n 0, 1) := by decide +kernel
theorem d11_22 : decode prog_66_method_8_code 22 = .ok (.aload_n 0, 1) := by decide +kernel
theorem d11_23 : decode prog_66_method_8_code 23 = .ok (.iload_n 1, 1) := by decide +kernel
theorem d11_24 : decode prog_66_method_8_code 24 = .ok (.invokevirtual 40, 3) := by decide +kernel
theorem d11_27 : decode prog_66_method_8_code 27 = .ok (.invokevirtual 37, 3) := by decide +kernel
theorem d11_30 : decode prog_66_method_8_code 30 = .ok (.ladd, 1) := by decide +kernel
theorem d11_31 : decode prog_66_method_8_code 31 = .ok (.lastore, 1) := by decide +kernel
theorem d11_32 : decode prog_66_method_8_code 32 = .ok (.return_, 1) := by decide +kernel
theorem d12_0 : decode prog_49_method_7_code 0 = .ok (.aload_n 0, 1) := by decide +kernel
theorem d12_1 : decode prog_49_method_7_code 1 = .ok (.getfield 31, 3) := by decide +kernel
theorem d12_4 : decode prog_49_method_7_code 4 = .ok (.iload_n 1, 1) := by decide +kernel
theorem d12_5 : decode prog_49_method_7_code 5 = .ok (.iaload, 1) := by decide +kernel
theorem d12_6 : decode prog_49_method_7_code 6 = .ok (.ireturn, 1) := by decide +kernel
theorem d13_0 : decode prog_66_method_10_code 0 = .ok (.iload_n 1, 1) := by decide +kernel
theorem d13_1 : decode prog_66_method_10_code 1 = .ok (.iconst (-1), 1) := by decide +kernel
theorem d13_2 : decode prog_66_method_10_code 2 = .ok (.if_icmp .ne 7, 3) := by decide +kernel
theorem d13_5 : decode prog_66_method_10_code 5 = .ok (.lconst 0, 1) := by decide +kernel
theorem d13_6 : decode prog_66_method_10_code 6 = .ok (.goto 9, 3) := by decide +kernel
theorem d13_9 : decode prog_66_method_10_code 9 = .ok (.aload_n 0, 1) := by decide +kernel
theorem d13_10 : decode prog_66_method_10_code 10 = .ok (.getfield 16, 3) := by decide +kernel
theorem d13_13 : decode prog_66_method_10_code 13 = .ok (.iload_n 1, 1) := by decide +kernel
theorem d13_14 : decode prog_66_method_10_code 14 = .ok (.laload, 1) := by decide +kernel
theorem d13_15 : decode prog_66_method_10_code 15 = .ok (.lreturn, 1) := by decide +kernel
theorem d14_0 : decode prog_49_method_8_code 0 = .ok (.aload_n 0, 1) := by decide +kernel
theorem d14_1 : decode prog_49_method_8_code 1 = .ok (.getfield 34, 3) := by decide +kernel
theorem d14_4 : decode prog_49_method_8_code 4 = .ok (.iload_n 1, 1) := by decide +kernel
theorem d14_5 : decode prog_49_method_8_code 5 = .ok (.iaload, 1) := by decide +kernel
theorem d14_6 : decode prog_49_method_8_code 6 = .ok (.ireturn, 1) := by decide +kernel
theorem d15_0 : decode prog_49_method_22_code 0 = .ok (.iconst 0, 1) := by decide +kernel
theorem d15_1 : decode prog_49_method_22_code 1 = .ok (.istore_n 3, 1) := by decide +kernel
theorem d15_2 : decode prog_49_method_22_code 2 = .ok (.aload_n 0, 1) := by decide +kernel
theorem d15_3 : decode prog_49_method_22_code 3 = .ok (.getfield 9, 3) := by decide +kernel
theorem d15_6 : decode prog_49_method_22_code 6 = .ok (.istore 4, 2) := by decide +kernel
theorem d15_8 : decode prog_49_method_22_code 8 = .ok (.iload 4, 2) := by decide +kernel
theorem d15_10 : decode prog_49_method_22_code 10 = .ok (.iload_n 2, 1) := by decide +kernel
theorem d15_11 : decode prog_49_method_22_code 11 = .ok (.if_icmp .eq 54, 3) := by decide +kernel
theorem d15_14 : decode prog_49_method_22_code 14 = .ok (.aload_n 0, 1) := by decide +kernel
theorem d15_15 : decode prog_49_method_22_code 15 = .ok (.getfield 15, 3) := by decide +kernel
theorem d15_18 : decode prog_49_method_22_code 18 = .ok (.iload_n 3, 1) := by decide +kernel
theorem d15_19 : decode prog_49_method_22_code 19 = .ok (.iload 4, 2) := by decide +kernel
theorem d15_21 : decode prog_49_method_22_code 21 = .ok (.iastore, 1) := by decide +kernel
theorem d15_22 : decode prog_49_method_22_code 22 = .ok (.aload_n 0, 1) := by decide +kernel
theorem d15_23 : decode prog_49_method_22_code 23 = .ok (.getfield 19, 3) := by decide +kernel
theorem d15_26 : decode prog_49_method_22_code 26 = .ok (.iload_n 3, 1) := by decide +kernel
theorem d15_27 : decode prog_49_method_22_code 27 = .ok (.aload_n 0, 1) := by decide +kernel
theorem d15_28 : decode prog_49_method_22_code 28 = .ok (.iload_n 1, 1) := by decide +kernel
theorem d15_29 : decode prog_49_method_22_code 29 = .ok (.iload 4, 2) := by decide +kernel
theorem d15_31 : decode prog_49_method_22_code 31 = .ok (.invokevirtual 46, 3) := by decide +kernel
theorem d15_34 : decode prog_49_method_22_code 34 = .ok (.ifCond .eq 7, 3) := by decide +kernel
theorem d15_37 : decode prog_49_method_22_code 37 = .ok (.iconst 0, 1) := by decide +kernel
theorem d15_38 : decode prog_49_method_22_code 38 = .ok (.goto 4, 3) := by decide +kernel
theorem d15_41 : decode prog_49_method_22_code 41 = .ok (.iconst 1, 1) := by decide +kernel
theorem d15_42 : decode prog_49_method_22_code 42 = .ok (.iastore, 1) := by decide +kernel
theorem d15_43 : decode prog_49_method_22_code 43 = .ok (.aload_n 0, 1) := by decide +kernel
theorem d15_44 : decode prog_49_method_22_code 44 = .ok (.getfield 38, 3) := by decide +kernel
theorem d15_47 : decode prog_49_method_22_code 47 = .ok (.aload_n 0, 1) := by decide +kernel
theorem d15_48 : decode prog_49_method_22_code 48 = .ok (.getfield 19, 3) := by decide +kernel
theorem d15_51 : decode prog_49_method_22_code 51 = .ok (.iload_n 3, 1) := by decide +kernel
theorem d15_52 : decode prog_49_method_22_code 52 = .ok (.iaload, 1) := by decide +kernel
theorem d15_53 : decode prog_49_method_22_code 53 = .ok (.aaload, 1) := by decide +kernel
theorem d15_54 : decode prog_49_method_22_code 54 = .ok (.iload 4, 2) := by decide +kernel
theorem d15_56 : decode prog_49_method_22_code 56 = .ok (.iaload, 1) := by decide +kernel
theorem d15_57 : decode prog_49_method_22_code 57 = .ok (.istore 4, 2) := by decide +kernel
theorem d15_59 : decode prog_49_method_22_code 59 = .ok (.iinc 3 1, 3) := by decide +kernel
theorem d15_62 : decode prog_49_method_22_code 62 = .ok (.goto (-54), 3) := by decide +kernel
theorem d15_65 : decode prog_49_method_22_code 65 = .ok (.iload_n 3, 1) := by decide +kernel
theorem d15_66 : decode prog_49_method_22_code 66 = .ok (.ireturn, 1) := by decide +kernel
theorem d16_0 : decode prog_49_method_23_code 0 = .ok (.iload_n 3, 1) := by decide +kernel
theorem d16_1 : decode prog_49_method_23_code 1 = .ok (.istore 4, 2) := by decide +kernel
theorem d16_3 : decode prog_49_method_23_code 3 = .ok (.iload_n 2, 1) := by decide +kernel
theorem d16_4 : decode prog_49_method_23_code 4 = .ok (.istore 5, 2) := by decide +kernel
theorem d16_6 : decode prog_49_method_23_code 6 = .ok (.iload 5, 2) := by decide +kernel
theorem d16_8 : decode prog_49_method_23_code 8 = .ok (.iload_n 1, 1) := by decide +kernel
theorem d16_9 : decode prog_49_method_23_code 9 = .ok (.if_icmp .le 50, 3) := by decide +kernel
theorem d16_12 : decode prog_49_method_23_code 12 = .ok (.aload_n 0, 1) := by decide +kernel
theorem d16_13 : decode prog_49_method_23_code 13 = .ok (.getfield 38, 3) := by decide +kernel
theorem d16_16 : decode prog_49_method_23_code 16 = .ok (.aload_n 0, 1) := by decide +kernel
theorem d16_17 : decode prog_49_method_23_code 17 = .ok (.getfield 19, 3) := by decide +kernel
theorem d16_20 : decode prog_49_method_23_code 20 = .ok (.iload 5, 2) := by decide +kernel
theorem d16_22 : decode prog_49_method_23_code 22 = .ok (.iconst 1, 1) := by decide +kernel
theorem d16_23 : decode prog_49_method_23_code 23 = .ok (.isub, 1) := by decide +kernel
theorem d16_24 : decode prog_49_method_23_code 24 = .ok (.iaload, 1) := by decide +kernel
theorem d16_25 : decode prog_49_method_23_code 25 = .ok (.aaload, 1) := by decide +kernel
theorem d16_26 : decode prog_49_method_23_code 26 = .ok (.aload_n 0, 1) := by decide +kernel
theorem d16_27 : decode prog_49_method_23_code 27 = .ok (.getfield 15, 3) := by decide +kernel
theorem d16_30 : decode prog_49_method_23_code 30 = .ok (.iload 5, 2) := by decide +kernel
theorem d16_32 : decode prog_49_method_23_code 32 = .ok (.iconst 1, 1) := by decide +kernel
theorem d16_33 : decode prog_49_method_23_code 33 = .ok (.isub, 1) := by decide +kernel
theorem d16_34 : decode prog_49_method_23_code 34 = .ok (.iaload, 1) := by decide +kernel
theorem d16_35 : decode prog_49_method_23_code 35 = .ok (.iload 4, 2) := by decide +kernel
theorem d16_37 : decode prog_49_method_23_code 37 = .ok (.iastore, 1) := by decide +kernel
theorem d16_38 : decode prog_49_method_23_code 38 = .ok (.aload_n 0, 1) := by decide +kernel
theorem d16_39 : decode prog_49_method_23_code 39 = .ok (.aload_n 0, 1) := by decide +kernel
theorem d16_40 : decode prog_49_method_23_code 40 = .ok (.getfield 15, 3) := by decide +kernel
theorem d16_43 : decode prog_49_method_23_code 43 = .ok (.iload 5, 2) := by decide +kernel
theorem d16_45 : decode prog_49_method_23_code 45 = .ok (.iconst 1, 1) := by decide +kernel
theorem d16_46 : decode prog_49_method_23_code 46 = .ok (.isub, 1) := by decide +kernel
theorem d16_47 : decode prog_49_method_23_code 47 = .ok (.iaload, 1) := by decide +kernel
theorem d16_48 : decode prog_49_method_23_code 48 = .ok (.invokevirtual 89, 3) := by decide +kernel
theorem d16_51 : decode prog_49_method_23_code 51 = .ok (.istore 4, 2) := by decide +kernel
theorem d16_53 : decode prog_49_method_23_code 53 = .ok (.iinc 5 (-1), 3) := by decide +kernel
theorem d16_56 : decode prog_49_method_23_code 56 = .ok (.goto (-50), 3) := by decide +kernel
theorem d16_59 : decode prog_49_method_23_code 59 = .ok (.iload 4, 2) := by decide +kernel
theorem d16_61 : decode prog_49_method_23_code 61 = .ok (.ireturn, 1) := by decide +kernel
theorem d17_0 : decode prog_66_method_9_code 0 = .ok (.aload_n 0, 1) := by decide +kernel
theorem d17_1 : decode prog_66_method_9_code 1 = .ok (.getfield 7, 3) := by decide +kernel
theorem d17_4 : decode prog_66_method_9_code 4 = .ok (.iload_n 1, 1) := by decide +kernel
theorem d17_5 : decode prog_66_method_9_code 5 = .ok (.laload, 1) := by decide +kernel
theorem d17_6 : decode prog_66_method_9_code 6 = .ok (.aload_n 0, 1) := by decide +kernel
theorem d17_7 : decode prog_66_method_9_code 7 = .ok (.getfield 7, 3) := by decide +kernel
theorem d17_10 : decode prog_66_method_9_code 10 = .ok (.iload_n 2, 1) := by decide +kernel
theorem d17_11 : decode prog_66_method_9_code 11 = .ok (.laload, 1) := by decide +kernel
theorem d17_12 : decode prog_66_method_9_code 12 = .ok (.lcmp, 1) := by decide +kernel
theorem d17_13 : decode prog_66_method_9_code 13 = .ok (.ifCond .eq 27, 3) := by decide +kernel
theorem d17_16 : decode prog_66_method_9_code 16 = .ok (.aload_n 0, 1) := by decide +kernel
theorem d17_17 : decode prog_66_method_9_code 17 = .ok (.getfield 7, 3) := by decide +kernel
theorem d17_20 : decode prog_66_method_9_code 20 = .ok (.iload_n 1, 1) := by decide +kernel
theorem d17_21 : decode prog_66_method_9_code 21 = .ok (.laload, 1) := by decide +kernel
theorem d17_22 : decode prog_66_method_9_code 22 = .ok (.aload_n 0, 1) := by decide +kernel
theorem d17_23 : decode prog_66_method_9_code 23 = .ok (.getfield 7, 3) := by decide +kernel
theorem d17_26 : decode prog_66_method_9_code 26 = .ok (.iload_n 2, 1) := by decide +kernel
theorem d17_27 : decode prog_66_method_9_code 27 = .ok (.laload, 1) := by decide +kernel
theorem d17_28 : decode prog_66_method_9_code 28 = .ok (.lcmp, 1) := by decide +kernel
theorem d17_29 : decode prog_66_method_9_code 29 = .ok (.ifCond .ge 7, 3) := by decide +kernel
theorem d17_32 : decode prog_66_method_9_code 32 = .ok (.iconst 1, 1) := by decide +kernel
theorem d17_33 : decode prog_66_method_9_code 33 = .ok (.goto 17, 3) := by decide +kernel
theorem d17_36 : decode prog_66_method_9_code 36 = .ok (.iconst 0, 1) := by decide +kernel
theorem d17_37 : decode prog_66_method_9_code 37 = .ok (.goto 13, 3) := by decide +kernel
theorem d17_40 : decode prog_66_method_9_code 40 = .ok (.iload_n 1, 1) := by decide +kernel
theorem d17_41 : decode prog_66_method_9_code 41 = .ok (.iload_n 2, 1) := by decide +kernel
theorem d17_42 : decode prog_66_method_9_code 42 = .ok (.if_icmp .ge 7, 3) := by decide +kernel
theorem d17_45 : decode prog_66_method_9_code 45 = .ok (.iconst 1, 1) := by decide +kernel
theorem d17_46 : decode prog_66_method_9_code 46 = .ok (.goto 4, 3) := by decide +kernel
theorem d17_49 : decode prog_66_method_9_code 49 = .ok (.iconst 0, 1) := by decide +kernel
theorem d17_50 : decode prog_66_method_9_code 50 = .ok (.ireturn, 1) := by decide +kernel
theorem d18_0 : decode prog_49_method_25_code 0 = .ok (.aload_n 0, 1) := by decide +kernel
theorem d18_1 : decode prog_49_method_25_code 1 = .ok (.aload_n 0, 1) := by decide +kernel
theorem d18_2 : decode prog_49_method_25_code 2 = .ok (.getfield 31, 3) := by decide +kernel
theorem d18_5 : decode prog_49_method_25_code 5 = .ok (.iload_n 1, 1) := by decide +kernel
theorem d18_6 : decode prog_49_method_25_code 6 = .ok (.iaload, 1) := by decide +kernel
theorem d18_7 : decode prog_49_method_25_code 7 = .ok (.invokevirtual 93, 3) := by decide +kernel
theorem d18_10 : decode prog_49_method_25_code 10 = .ok (.aload_n 0, 1) := by decide +kernel
theorem d18_11 : decode prog_49_method_25_code 11 = .ok (.aload_n 0, 1) := by decide +kernel
theorem d18_12 : decode prog_49_method_25_code 12 = .ok (.getfield 34, 3) := by decide +kernel
theorem d18_15 : decode prog_49_method_25_code 15 = .ok (.iload_n 1, 1) := by decide +kernel
theorem d18_16 : decode prog_49_method_25_code 16 = .ok (.iaload, 1) := by decide +kernel
theorem d18_17 : decode prog_49_method_25_code 17 = .ok (.invokevirtual 93, 3) := by decide +kernel
theorem d18_20 : decode prog_49_method_25_code 20 = .ok (.isub, 1) := by decide +kernel
theorem d18_21 : decode prog_49_method_25_code 21 = .ok (.istore_n 2, 1) := by decide +kernel
theorem d18_22 : decode prog_49_method_25_code 22 = .ok (.iload_n 2, 1) := by decide +kernel
theorem d18_23 : decode prog_49_method_25_code 23 = .ok (.iconst 1, 1) := by decide +kernel
theorem d18_24 : decode prog_49_method_25_code 24 = .ok (.if_icmp .gt 8, 3) := by decide +kernel
theorem d18_27 : decode prog_49_method_25_code 27 = .ok (.iload_n 2, 1) := by decide +kernel
theorem d18_28 : decode prog_49_method_25_code 28 = .ok (.iconst (-1), 1) := by decide +kernel
theorem d18_29 : decode prog_49_method_25_code 29 = .ok (.if_icmp .ge 78, 3) := by decide +kernel
theorem d18_107 : decode prog_49_method_25_code 107 = .ok (.aload_n 0, 1) := by decide +kernel
theorem d18_108 : decode prog_49_method_25_code 108 = .ok (.iload_n 1, 1) := by decide +kernel
theorem d18_109 : decode prog_49_method_25_code 109 = .ok (.invokevirtual 57, 3) := by decide +kernel
theorem d18_112 : decode prog_49_method_25_code 112 = .ok (.iload_n 1, 1) := by decide +kernel
theorem d18_113 : decode prog_49_method_25_code 113 = .ok (.ireturn, 1) := by decide +kernel
abbrev own_y10 : MethodName := ⟨"java/lang/Math", "max", "(II)I"⟩
abbrev own_y2 : MethodName := ⟨"com/example/equitide/equitide/policy/backfilling/AvlTree", "<init>", "(II)V"⟩
abbrev own_y1 : MethodName := ⟨"com/example/equitide/equitide/policy/backfilling/PlannedEnds", "<init>", "(II)V"⟩
abbrev own_y4 : MethodName := ⟨"com/example/equitide/equitide/policy/backfilling/PlannedEnds", "add", "(IJJ)V"⟩
abbrev own_y5 : MethodName := ⟨"com/example/equitide/equitide/policy/backfilling/AvlTree", "take", "(I)I"⟩
abbrev own_y6 : MethodName := ⟨"com/example/equitide/equitide/policy/backfilling/AvlTree", "take", "()I"⟩
abbrev own_y7 : MethodName := ⟨"com/example/equitide/equitide/policy/backfilling/AvlTree", "insert", "(I)V"⟩
abbrev own_y8 : MethodName := ⟨"com/example/equitide/equitide/policy/backfilling/AvlTree", "update", "(I)V"⟩
abbrev own_y9 : MethodName := ⟨"com/example/equitide/equitide/policy/backfilling/AvlTree", "height", "(I)I"⟩
abbrev own_y11 : MethodName := ⟨"com/example/equitide/equitide/policy/backfilling/PlannedEnds", "summarise", "(I)V"⟩
abbrev own_y12 : MethodName := ⟨"com/example/equitide/equitide/policy/backfilling/AvlTree", "left", "(I)I"⟩
abbrev own_y13 : MethodName := ⟨"com/example/equitide/equitide/policy/backfilling/PlannedEnds", "below", "(I)J"⟩
abbrev own_y14 : MethodName := ⟨"com/example/equitide/equitide/policy/backfilling/AvlTree", "right", "(I)I"⟩
abbrev own_y15 : MethodName := ⟨"com/example/equitide/equitide/policy/backfilling/AvlTree", "down", "(II)I"⟩
abbrev own_y16 : MethodName := ⟨"com/example/equitide/equitide/policy/backfilling/AvlTree", "rejoined", "(III)I"⟩
abbrev own_y17 : MethodName := ⟨"com/example/equitide/equitide/policy/backfilling/PlannedEnds", "before", "(II)Z"⟩
abbrev own_y18 : MethodName := ⟨"com/example/equitide/equitide/policy/backfilling/AvlTree", "balanced", "(I)I"⟩
theorem pf_10 : plainFor own_y10 = true := by decide +kernel
theorem pf_2 : plainFor own_y2 = true := by decide +kernel
theorem pf_1 : plainFor own_y1 = true := by decide +kernel
theorem pf_4 : plainFor own_y4 = true := by decide +kernel
theorem pf_5 : plainFor own_y5 = true := by decide +kernel
theorem pf_6 : plainFor own_y6 = true := by decide +kernel
theorem pf_7 : plainFor own_y7 = true := by decide +kernel
theorem pf_8 : plainFor own_y8 = true := by decide +kernel
theorem pf_9 : plainFor own_y9 = true := by decide +kernel
theorem pf_11 : plainFor own_y11 = true := by decide +kernel
theorem pf_12 : plainFor own_y12 = true := by decide +kernel
theorem pf_13 : plainFor own_y13 = true := by decide +kernel
theorem pf_14 : plainFor own_y14 = true := by decide +kernel
theorem pf_15 : plainFor own_y15 = true := by decide +kernel
theorem pf_16 : plainFor own_y16 = true := by decide +kernel
theorem pf_17 : plainFor own_y17 = true := by decide +kernel
theorem pf_18 : plainFor own_y18 = true := by decide +kernel
theorem pn_0 : plainName "com/example/equitide/equitide/policy/backfilling/PlannedEndsBeforePinLaw" = true := by first | (simp [plainName, overriddenIn]; done) | decide +kernel
theorem pd_0 : parseMethodDescriptor "(II)V" = some ⟨[.int, .int], none⟩ := by decide +kernel
theorem pd_1 : parseMethodDescriptor "()I" = some ⟨[], some .int⟩ := by decide +kernel
theorem pd_2 : parseMethodDescriptor "(I)I" = some ⟨[.int], some .int⟩ := by decide +kernel
theorem pd_3 : parseMethodDescriptor "(II)I" = some ⟨[.int, .int], some .int⟩ := by decide +kernel
theorem pd_4 : parseMethodDescriptor "(I)J" = some ⟨[.int], some .long⟩ := by decide +kernel
theorem pd_5 : parseMethodDescriptor "(I)V" = some ⟨[.int], none⟩ := by decide +kernel
theorem pd_6 : parseMethodDescriptor "(III)I" = some ⟨[.int, .int, .int], some .int⟩ := by decide +kernel
theorem pd_7 : parseMethodDescriptor "(IJJ)V" = some ⟨[.int, .long, .long], none⟩ := by decide +kernel
theorem pd_8 : parseMethodDescriptor "(II)Z" = some ⟨[.int, .int], some .boolean⟩ := by decide +kernel
def own_PE (Z : State) (h : Heap) (a a1_ a2_ a3_ a4_ a5_ a6_ a7_ a8_ a9_ a10_ a11_ : Addr) (root_v unused_v held_v : Int32) (path_L : List Int32) (sides_L : List Int32) (slotOf_L : List Int32) (unusedSlots_L : List Int32) (left_L : List Int32) (right_L : List Int32) (height_L : List Int32) (plannedEnd_L : List Int64) (processors_L : List Int64) (below_L : List Int64) : Prop := Exa Z h a "com/example/equitide/equitide/policy/backfilling/PlannedEnds" ∧ Fld Z h a "com/example/equitide/equitide/policy/backfilling/AvlTree" "root" "I" (.int root_v) ∧ Fld Z h a "com/example/equitide/equitide/policy/backfilling/AvlTree" "unused" "I" (.int unused_v) ∧ Fld Z h a "com/example/equitide/equitide/policy/backfilling/AvlTree" "held" "I" (.int held_v) ∧ Fld Z h a "com/example/equitide/equitide/policy/backfilling/AvlTree" "path" "[I" (.ref a1_) ∧ Fld Z h a "com/example/equitide/equitide/policy/backfilling/AvlTree" "sides" "[I" (.ref a2_) ∧ Fld Z h a "com/example/equitide/equitide/policy/backfilling/AvlTree" "slotOf" "[I" (.ref a3_) ∧ Fld Z h a "com/example/equitide/equitide/policy/backfilling/AvlTree" "unusedSlots" "[I" (.ref a4_) ∧ Fld Z h a "com/example/equitide/equitide/policy/backfilling/AvlTree" "left" "[I" (.ref a5_) ∧ Fld Z h a "com/example/equitide/equitide/policy/backfilling/AvlTree" "right" "[I" (.ref a6_) ∧ Fld Z h a "com/example/equitide/equitide/policy/backfilling/AvlTree" "children" "[[I" (.ref a7_) ∧ Fld Z h a "com/example/equitide/equitide/policy/backfilling/AvlTree" "height" "[B" (.ref a8_) ∧ Fld Z h a "com/example/equitide/equitide/policy/backfilling/PlannedEnds" "plannedEnd" "[J" (.ref a9_) ∧ Fld Z h a "com/example/equitide/equitide/policy/backfilling/PlannedEnds" "processors" "[J" (.ref a10_) ∧ Fld Z h a "com/example/equitide/equitide/policy/backfilling/PlannedEnds" "below" "[J" (.ref a11_) ∧ own_A .int Value.int Z h a1_ path_L ∧ own_A .int Value.int Z h a2_ sides_L ∧ own_A .int Value.int Z h a3_ slotOf_L ∧ own_A .int Value.int Z h a4_ unusedSlots_L ∧ own_A .int Value.int Z h a5_ left_L ∧ own_A .int Value.int Z h a6_ right_L ∧ own_A (.array .int) (fun v : Value => v) Z h a7_ [.ref a5_, .ref a6_] ∧ own_A .byte Value.int Z h a8_ height_L ∧ own_A .long Value.long Z h a9_ plannedEnd_L ∧ own_A .long Value.long Z h a10_ processors_L ∧ own_A .long Value.long Z h a11_ below_L
def own_Or (a a1_ a2_ a3_ a4_ a5_ a6_ a7_ a8_ a9_ a10_ a11_ : Nat) : Prop := a < a1_ ∧ a1_ < a2_ ∧ a2_ < a3_ ∧ a3_ < a4_ ∧ a4_ < a5_ ∧ a5_ < a6_ ∧ a6_ < a7_ ∧ a7_ < a8_ ∧ a8_ < a9_ ∧ a9_ < a10_ ∧ a10_ < a11_
def own_Or8 (a a1_ a2_ a3_ a4_ a5_ a6_ a7_ a8_ : Nat) : Prop := a < a1_ ∧ a1_ < a2_ ∧ a2_ < a3_ ∧ a3_ < a4_ ∧ a4_ < a5_ ∧ a5_ < a6_ ∧ a6_ < a7_ ∧ a7_ < a8_
theorem own_lne {x y : Int64} (h : x < y) : ¬ x = y := fun q => by subst q; exact absurd h (by rw [Int64.lt_iff_toInt_lt]; omega)
theorem own_lne' {x y : Int64} (h : x < y) : ¬ y = x := fun q => own_lne h q.symm
theorem own_lgt {x y : Int64} (h : x < y) : ¬ y < x := by rw [Int64.lt_iff_toInt_lt] at *; omega
theorem own_eqnl {x y : Int64} (h : x = y) : ¬ x < y := by subst h; rw [Int64.lt_iff_toInt_lt]; omega
theorem own_tri {x y : Int64} (h1 : ¬ x < y) (h2 : ¬ y < x) : x = y := by rw [Int64.lt_iff_toInt_lt] at *; exact Int64.toInt_inj.mp (by omega)
def own_max (a b : Int32) : Int32 := if a < b then b else a
def QM (a b : Int32) (h0 : Heap) (n0 : Nat) (v : Option Value) (h : Heap) (L : List Loc) : Prop := v = some (.int (own_max a b)) ∧ Fr n0 L ∧ h = h0
theorem ef_rmMax (m : MethodId) (x0 : Int32) (x1 : Int32) : entryFrame m #[(.int x0), (.int x1)] 2 = mkF m 0 #[.val (.int x0), .val (.int x1)] [] := by first | (simp [entryFrame, mkF, argsToLocals, Value.category, maxLocals]; done) | rfl
set_option maxRecDepth 65536 in
set_option maxHeartbeats 40000000 in
theorem rmMax (l : Launch) (Z : State) (a0 : Array Value) (hw : ∀ d ∈ tables_1, d.before a0 Z = true) (ws : List Jvm.Cond) (x1 x2 : Int32) (h0 : Heap) (n0 : Nat)  :
    MetFree l own_y10 (head1 (Jvm.Cond.code own_y10 jdk_29_method_65_code 2 (some .int) :: ws) ({ frames := 0, cells := 0, slots := 0, locals := 0 } : Room)) (fun aR U => aR = #[(.int x1), (.int x2)] ∧ Z.Warmed39 U.vm ∧ U.heap = h0) (fun _ _ _ _ _ => True) (fun _ U o U' => ∃ v L, o = .returned v ∧ QM x1 x2 h0 n0 v U'.heap L ∧ FrameEnd U o U' L ({ frames := 0, cells := 0, slots := 0, locals := 0 } : Room).cells ({ frames := 0, cells := 0, slots := 0, locals := 0 } : Room).slots) := by
  refine MetFree.of_bodySF pf_10 hisR ?_
  intro p e s m args below meth c s₁ Bd hml0 hP hK
  obtain ⟨rfl, hZ, hhE⟩ := hP
  have hx := Bd.exec
  have hby := Bd.bytes
  have hml : c.maxLocals = 2 := hml0
  have hown : s.vm.findClass "java/lang/Math" = some m.cls := findClass_of_methodNamed Bd.named
  have hnm := (name_of_methodNamed Bd.named Bd.method).1
  have X0 : Stand p l e ({ frames := 0, cells := 0, slots := 0, locals := 0 } : Room) s m #[(.int x1), (.int x2)] below meth c s₁ [] 0 0 := Stand.of_body Bd
  have e0 : s₁.heap = h0 := by rw [← hhE, Bd.state]; rfl
  have N0 := Fr.nil n0
  show own_Go p e below (own_Post s (QM x1 x2 h0 n0) ({ frames := 0, cells := 0, slots := 0, locals := 0 } : Room).cells ({ frames := 0, cells := 0, slots := 0, locals := 0 } : Room).slots) (s₁.setTop (entryFrame m #[(.int x1), (.int x2)] 2))
  rw [ef_rmMax]
  generalize hG : own_Post s (QM x1 x2 h0 n0) ({ frames := 0, cells := 0, slots := 0, locals := 0 } : Room).cells ({ frames := 0, cells := 0, slots := 0, locals := 0 } : Room).slots = G
  refine own_iloadN X0 hx (hb hby d10_0) rfl 1 rfl ?_
  refine own_iloadN X0 hx (hb hby d10_1) rfl 2 rfl ?_
  by_cases c1 : x1 < x2
  ·
    refine own_icmpY X0 hx (hb hby d10_2) (tlt c1).1 9 ⟨by decide, by decide⟩ ?_
    refine own_iloadN X0 hx (hb hby d10_9) rfl 10 rfl ?_
    refine own_ireturn X0 hx Bd.notSynchronized hG Bd.returns (hb hby d10_10) (by decide) (by decide) ?_
    rw [e0]
    exact ⟨by unfold own_max; simp [c1], N0, rfl⟩
  ·
    refine own_icmpN X0 hx (hb hby d10_2) (flt c1).1 5 rfl ?_
    refine own_iloadN X0 hx (hb hby d10_5) rfl 6 rfl ?_
    refine own_goto X0 hx (hb hby d10_6) 10 ⟨by decide, by decide⟩ ?_
    refine own_ireturn X0 hx Bd.notSynchronized hG Bd.returns (hb hby d10_10) (by decide) (by decide) ?_
    rw [e0]
    exact ⟨by unfold own_max; simp [c1], N0, rfl⟩
def own_AV (Z : State) (h : Heap) (a : Addr) (k : ClassId) (L : List Value) : Prop := ∃ cl : Cell, (Arr Z h a cl (.array .int) ∧ cl.slots = (L.map (fun v : Value => v)).toArray ∧ L.length < 2147483648) ∧ cl.cls = k
section OwnAV
variable {Z : State} {h h' : Heap} {a b : Addr} {k : ClassId} {L : List Value}
theorem own_AV.lt (F : own_AV Z h a k L) : a < h.size := by obtain ⟨cl, ⟨A, -⟩, -⟩ := F; exact A.lt
theorem own_AV.ext (F : own_AV Z h a k L) (E : Ext h h') : own_AV Z h' a k L := by obtain ⟨cl, ⟨A, r⟩, q⟩ := F; exact ⟨cl, ⟨A.ext E, r⟩, q⟩
theorem own_AV.other {sl : Nat} {v : Value} (F : own_AV Z h b k L) (W : Wr h h' a sl v) (q : b ≠ a) : own_AV Z h' b k L := by obtain ⟨cl, ⟨A, r⟩, q'⟩ := F; exact ⟨cl, ⟨A.other W q, r⟩, q'⟩
theorem own_AV.keep {ws : List Addr} (F : own_AV Z h a k L) (K : Keep h h' ws) (q : a ∉ ws) : own_AV Z h' a k L := by obtain ⟨cl, ⟨A, r⟩, q'⟩ := F; exact ⟨cl, ⟨⟨K.2.1 a cl A.1 q, A.2⟩, r⟩, q'⟩
theorem own_AV.arr (F : own_AV Z h a k L) : own_A (.array .int) (fun v : Value => v) Z h a L := by obtain ⟨cl, r, -⟩ := F; exact ⟨cl, r⟩
variable {p : Program} {l : Launch} {e : Env} {R : Room} {s : State} {m : MethodId} {args : Array Value} {below : List Frame} {meth : Method} {c : Code} {T : State} {locs : List Loc} {cells slots : Nat} {G : State → Outcome → Prop} {Ls : Array Slot} {rest : List Value} {pc : Nat} {a0 : Array Value}
theorem own_newIE (X : Stand p l e R s m args below meth c T locs cells slots) (hx : p.tables.exec = Jvm.exec) (hZ : Z.Warmed39 s.vm) (w : (Cond.arrayClass .int).before a0 Z = true) (eT : T.heap = h) {n : Int32} (hd : decode c.code pc = .ok (.newarray .int, 2)) (i : Nat) (hn : n = Int32.ofNat i) (cap : Nat) (hcap : i ≤ cap) (hb : cap * 8 ≤ 536870912) (hc : cells + 1 ≤ R.cells) (hl : slots + cap ≤ R.slots) (pc' : Nat) (hp : pc + 2 = pc')
    (k : ∀ (T' : State) (h' : Heap) (a' : Addr), a' = h.size → Stand p l e R s m args below meth c T' locs (cells + 1) (slots + cap) → T'.heap = h' → Ext h h' → own_A .int Value.int Z h' a' (List.replicate i (0 : Int32)) → Exa Z h' a' "[I" → own_Go p e below G (T'.setTop (mkF m pc' Ls (.ref a' :: rest)))) : own_Go p e below G (T.setTop (mkF m pc Ls (.int n :: rest))) := by
  subst hp
  have hi : i < 2147483648 := by omega
  obtain ⟨q1, q2⟩ := own_idx hn (Nat.lt_succ_self i) (n := i + 1) (by omega)
  obtain ⟨T', h', cA, X', e', E', A', Ex', st⟩ := newPE X hx hZ (aty := .int) w eT (g := mkF m pc Ls (.int n :: rest)) rfl hd (n := n) (rest := rest) rfl (fun z => q1 (Or.inl z)) (cap := cap) (by rw [q2]; exact hcap) hb hc hl (ad := "[I") (by decide)
  exact own_go st (k T' h' _ rfl X' e' E' (own_A.new (f := Value.int) (d := 0) rfl A' i hn hi) Ex')
theorem own_newAA (X : Stand p l e R s m args below meth c T locs cells slots) (hx : p.tables.exec = Jvm.exec) (hZ : Z.Warmed39 s.vm) {own : String} {index : Nat} (hown : s.vm.findClass own = some m.cls) (w1 : (Cond.classLink own index "[I").before a0 Z = true) (w2 : (Cond.arrayOver (.array .int)).before a0 Z = true) (eT : T.heap = h) (hd : decode c.code pc = .ok (.anewarray index, 3)) (hc : cells + 1 ≤ R.cells) (hl : slots + 2 ≤ R.slots) (pc' : Nat) (hp : pc + 3 = pc')
    (k : ∀ (T' : State) (h' : Heap) (a' : Addr) (cA : ClassId), a' = h.size → Stand p l e R s m args below meth c T' locs (cells + 1) (slots + 2) → T'.heap = h' → Ext h h' → own_AV Z h' a' cA [.null, .null] → OvrA Z cA .int "[I" → own_Go p e below G (T'.setTop (mkF m pc' Ls (.ref a' :: rest)))) : own_Go p e below G (T.setTop (mkF m pc Ls (.int (2 : Int32) :: rest))) := by
  subst hp
  obtain ⟨T', h', cA, X', e', E', A', -, O', st⟩ := newRA X hx hZ hown (ty := .int) (by decide) w1 w2 eT (g := mkF m pc Ls (.int (2 : Int32) :: rest)) rfl hd (n := 2) (rest := rest) rfl (by decide) (cap := 2) (by decide) (by decide) hc hl rfl
  exact own_go st (k T' h' _ cA rfl X' e' E' ⟨_, ⟨A', rfl, by decide⟩, rfl⟩ O')
theorem own_stAA (X : Stand p l e R s m args below meth c T locs cells slots) (hx : p.tables.exec = Jvm.exec) (hZ : Z.Warmed39 s.vm) (eT : T.heap = h) {y : Addr} (V : own_AV Z h a k L) (O : OvrA Z k .int "[I") (I : Ins Z h y "[I" true) {j : Int32} (i : Nat) (hj : j = Int32.ofNat i) (hi : i < L.length) (hd : decode c.code pc = .ok (.aastore, 1)) (pc' : Nat) (hp : pc + 1 = pc')
    (kk : ∀ (T' : State) (h' : Heap), Stand p l e R s m args below meth c T' (locs ++ [⟨a, j.toNatClampNeg⟩]) cells slots → T'.heap = h' → Wr h h' a i (.ref y) → own_AV Z h' a k (L.set i (.ref y)) → own_Go p e below G (T'.setTop (mkF m pc' Ls rest))) : own_Go p e below G (T.setTop (mkF m pc Ls (.ref y :: .int j :: .ref a :: rest))) := by
  subst hp
  obtain ⟨cl, ⟨A, r, r'⟩, q⟩ := V
  obtain ⟨q1, q2⟩ := own_idx hj hi r'
  obtain ⟨T', h', X', e', W, st⟩ := stR X hx hZ eT A (j := j) (v := .ref y) (by rw [r]; simpa using q1) rfl (Sto.ofVA A q O I) (g := mkF m pc Ls (.ref y :: .int j :: .ref a :: rest)) rfl rfl hd
  rw [q2] at W
  refine own_go st (kk T' h' X' e' W ⟨_, ⟨A.same W, ?_, by simpa using r'⟩, q⟩)
  show cl.slots.setIfInBounds i (.ref y) = _
  rw [r, List.map_set]; simp
end OwnAV
def QA (Z : State) (a : Addr) (h0 : Heap) (n0 : Nat) (v : Option Value) (h : Heap) (L : List Loc) : Prop := ∃ a1_ a2_ a3_ a4_ a5_ a6_ a7_ a8_ : Addr, v = none ∧ Fr n0 L ∧ n0 ≤ h.size ∧ (own_Or8 a a1_ a2_ a3_ a4_ a5_ a6_ a7_ a8_) ∧ Exa Z h a "com/example/equitide/equitide/policy/backfilling/PlannedEnds" ∧ Fld Z h a "com/example/equitide/equitide/policy/backfilling/AvlTree" "root" "I" (.int (-1 : Int32)) ∧ Fld Z h a "com/example/equitide/equitide/policy/backfilling/AvlTree" "unused" "I" (.int (2 : Int32)) ∧ Fld Z h a "com/example/equitide/equitide/policy/backfilling/AvlTree" "held" "I" (.int (0 : Int32)) ∧ Fld Z h a "com/example/equitide/equitide/policy/backfilling/AvlTree" "path" "[I" (.ref a1_) ∧ Fld Z h a "com/example/equitide/equitide/policy/backfilling/AvlTree" "sides" "[I" (.ref a2_) ∧ Fld Z h a "com/example/equitide/equitide/policy/backfilling/AvlTree" "slotOf" "[I" (.ref a3_) ∧ Fld Z h a "com/example/equitide/equitide/policy/backfilling/AvlTree" "unusedSlots" "[I" (.ref a4_) ∧ Fld Z h a "com/example/equitide/equitide/policy/backfilling/AvlTree" "left" "[I" (.ref a5_) ∧ Fld Z h a "com/example/equitide/equitide/policy/backfilling/AvlTree" "right" "[I" (.ref a6_) ∧ Fld Z h a "com/example/equitide/equitide/policy/backfilling/AvlTree" "children" "[[I" (.ref a7_) ∧ Fld Z h a "com/example/equitide/equitide/policy/backfilling/AvlTree" "height" "[B" (.ref a8_) ∧ Fld Z h a "com/example/equitide/equitide/policy/backfilling/PlannedEnds" "plannedEnd" "[J" .null ∧ Fld Z h a "com/example/equitide/equitide/policy/backfilling/PlannedEnds" "processors" "[J" .null ∧ Fld Z h a "com/example/equitide/equitide/policy/backfilling/PlannedEnds" "below" "[J" .null ∧ own_A .int Value.int Z h a1_ (List.replicate 127 (0 : Int32)) ∧ own_A .int Value.int Z h a2_ (List.replicate 127 (0 : Int32)) ∧ own_A .int Value.int Z h a3_ [(0 : Int32), (0 : Int32)] ∧ own_A .int Value.int Z h a4_ [(1 : Int32), (0 : Int32)] ∧ own_A .int Value.int Z h a5_ [(0 : Int32), (0 : Int32)] ∧ own_A .int Value.int Z h a6_ [(0 : Int32), (0 : Int32)] ∧ own_A (.array .int) (fun v : Value => v) Z h a7_ [.ref a5_, .ref a6_] ∧ own_A .byte Value.int Z h a8_ [(0 : Int32), (0 : Int32)]
theorem ef_rmA (m : MethodId) (x0 : Addr) (x1 : Int32) (x2 : Int32) : entryFrame m #[(.ref x0), (.int x1), (.int x2)] 4 = mkF m 0 #[.val (.ref x0), .val (.int x1), .val (.int x2), .unset] [] := by first | (simp [entryFrame, mkF, argsToLocals, Value.category, maxLocals]; done) | rfl
set_option maxRecDepth 65536 in
set_option maxHeartbeats 40000000 in
theorem rmA (l : Launch) (Z : State) (a0 : Array Value) (hw : ∀ d ∈ tables_1, d.before a0 Z = true) (ws : List Jvm.Cond) (a : Addr) (h0 : Heap) (n0 : Nat) (Z0 : n0 ≤ h0.size) (ga : n0 ≤ a) (E0 : Exa Z h0 a "com/example/equitide/equitide/policy/backfilling/PlannedEnds") (Fi0 : Fld Z h0 a "com/example/equitide/equitide/policy/backfilling/AvlTree" "root" "I" (.int 0)) (Fi1 : Fld Z h0 a "com/example/equitide/equitide/policy/backfilling/AvlTree" "unused" "I" (.int 0)) (Fi2 : Fld Z h0 a "com/example/equitide/equitide/policy/backfilling/AvlTree" "held" "I" (.int 0)) (Fi3 : Fld Z h0 a "com/example/equitide/equitide/policy/backfilling/AvlTree" "path" "[I" .null) (Fi4 : Fld Z h0 a "com/example/equitide/equitide/policy/backfilling/AvlTree" "sides" "[I" .null) (Fi5 : Fld Z h0 a "com/example/equitide/equitide/policy/backfilling/AvlTree" "slotOf" "[I" .null) (Fi6 : Fld Z h0 a "com/example/equitide/equitide/policy/backfilling/AvlTree" "unusedSlots" "[I" .null) (Fi7 : Fld Z h0 a "com/example/equitide/equitide/policy/backfilling/AvlTree" "left" "[I" .null) (Fi8 : Fld Z h0 a "com/example/equitide/equitide/policy/backfilling/AvlTree" "right" "[I" .null) (Fi9 : Fld Z h0 a "com/example/equitide/equitide/policy/backfilling/AvlTree" "children" "[[I" .null) (Fi10 : Fld Z h0 a "com/example/equitide/equitide/policy/backfilling/AvlTree" "height" "[B" .null) (Fi11 : Fld Z h0 a "com/example/equitide/equitide/policy/backfilling/PlannedEnds" "plannedEnd" "[J" .null) (Fi12 : Fld Z h0 a "com/example/equitide/equitide/policy/backfilling/PlannedEnds" "processors" "[J" .null) (Fi13 : Fld Z h0 a "com/example/equitide/equitide/policy/backfilling/PlannedEnds" "below" "[J" .null) :
    MetFree l own_y2 (head1 (Jvm.Cond.code own_y2 prog_49_method_1_code 4 none :: ws) ({ frames := 1, cells := 8, slots := 266, locals := 12 } : Room)) (fun aR U => aR = #[(.ref a), (.int (2 : Int32)), (.int (2 : Int32))] ∧ Z.Warmed39 U.vm ∧ U.heap = h0) (fun _ _ _ _ _ => True) (fun _ U o U' => ∃ v L, o = .returned v ∧ QA Z a h0 n0 v U'.heap L ∧ FrameEnd U o U' L ({ frames := 1, cells := 8, slots := 266, locals := 12 } : Room).cells ({ frames := 1, cells := 8, slots := 266, locals := 12 } : Room).slots) := by
  refine MetFree.of_bodySF pf_2 hisR ?_
  intro p e s m args below meth c s₁ Bd hml0 hP hK
  obtain ⟨rfl, hZ, hhE⟩ := hP
  have hx := Bd.exec
  have hby := Bd.bytes
  have hml : c.maxLocals = 4 := hml0
  have hown : s.vm.findClass "com/example/equitide/equitide/policy/backfilling/AvlTree" = some m.cls := findClass_of_methodNamed Bd.named
  have hnm := (name_of_methodNamed Bd.named Bd.method).1
  have X0 : Stand p l e ({ frames := 1, cells := 8, slots := 266, locals := 12 } : Room) s m #[(.ref a), (.int (2 : Int32)), (.int (2 : Int32))] below meth c s₁ [] 0 0 := Stand.of_body Bd
  have e0 : s₁.heap = h0 := by rw [← hhE, Bd.state]; rfl
  have N0 := Fr.nil n0
  show own_Go p e below (own_Post s (QA Z a h0 n0) ({ frames := 1, cells := 8, slots := 266, locals := 12 } : Room).cells ({ frames := 1, cells := 8, slots := 266, locals := 12 } : Room).slots) (s₁.setTop (entryFrame m #[(.ref a), (.int (2 : Int32)), (.int (2 : Int32))] 4))
  rw [ef_rmA]
  generalize hG : own_Post s (QA Z a h0 n0) ({ frames := 1, cells := 8, slots := 266, locals := 12 } : Room).cells ({ frames := 1, cells := 8, slots := 266, locals := 12 } : Room).slots = G
  refine own_aloadN X0 hx (hb hby d2_0) rfl rfl 1 rfl ?_
  refine own_initO X0 hx hZ hown (own_w hw 11 rfl) (own_w hw 12 rfl) (own_w hw 13 rfl) e0 (by rw [hml]; rfl) (hb hby d2_1) (by decide) 0 (Nat.le_of_eq rfl) (by decide) 4 rfl (fun T2 X2 e2 => ?_)
  refine own_aloadN X2 hx (hb hby d2_4) rfl rfl 5 rfl ?_
  refine own_iconst X2 hx (hb hby d2_5) (-1 : Int32) rfl 6 rfl ?_
  refine own_putF X2 hx hZ hown (own_w hw 14 rfl) Via.refl e2 Fi0 E0 (Or.inl (own_w hw 15 rfl)) (own_w hw 1 rfl) (ty := .int) (v' := (.int (-1 : Int32))) (by decide) rfl rfl (hb hby d2_6) 9 rfl (fun T3 h3 X3 e3 W3 => ?_)
  have N4 := Fr.snoc X3 N0 ga
  have Z5 : n0 ≤ h3.size := by rw [W3.size]; exact Z0
  have E6 := E0.wr W3
  have F7 := Fi0.same W3
  have F8 := Fi1.other W3 (Or.inr (sn_0 hw))
  have F9 := Fi2.other W3 (Or.inr (sn_1 hw))
  have F10 := Fi3.other W3 (Or.inr (sn_2 hw))
  have F11 := Fi4.other W3 (Or.inr (sn_3 hw))
  have F12 := Fi5.other W3 (Or.inr (sn_4 hw))
  have F13 := Fi6.other W3 (Or.inr (sn_5 hw))
  have F14 := Fi7.other W3 (Or.inr (sn_6 hw))
  have F15 := Fi8.other W3 (Or.inr (sn_7 hw))
  have F16 := Fi9.other W3 (Or.inr (sn_8 hw))
  have F17 := Fi10.other W3 (Or.inr (sn_9 hw))
  have F18 := Fi11.other W3 (Or.inr (sn_10 hw))
  have F19 := Fi12.other W3 (Or.inr (sn_11 hw))
  have F20 := Fi13.other W3 (Or.inr (sn_12 hw))
  refine own_aloadN X3 hx (hb hby d2_9) rfl rfl 10 rfl ?_
  refine own_bipush X3 hx (hb hby d2_10) (127 : Int32) rfl 12 rfl ?_
  refine own_newI X3 hx hZ (own_w hw 16 rfl) e3 (hb hby d2_12) 127 rfl 127 (by decide) (by decide) (by decide) (by decide) 14 rfl (fun T21 h21 a21 g21 X21 e21 E21 V21 => ?_)
  have ne22 : a ≠ a21 := by rw [g21]; exact Nat.ne_of_lt E6.lt
  have ge23 : n0 ≤ a21 := by rw [g21]; exact Z5
  have Z24 : n0 ≤ h21.size := Nat.le_trans Z5 E21.1
  have E25 := E6.ext E21
  have F26 := F7.ext E21
  have F27 := F8.ext E21
  have F28 := F9.ext E21
  have F29 := F10.ext E21
  have F30 := F11.ext E21
  have F31 := F12.ext E21
  have F32 := F13.ext E21
  have F33 := F14.ext E21
  have F34 := F15.ext E21
  have F35 := F16.ext E21
  have F36 := F17.ext E21
  have F37 := F18.ext E21
  have F38 := F19.ext E21
  have F39 := F20.ext E21
  have o21 : @LT.lt Nat _ a a21 := by rw [g21]; exact E6.lt
  refine own_putF X21 hx hZ hown (own_w hw 17 rfl) Via.refl e21 F29 E25 (Or.inr ⟨(own_w hw 18 rfl), rfl, hnm⟩) (own_w hw 1 rfl) (ty := (.array .int)) (v' := (.ref a21)) (by decide) rfl rfl (hb hby d2_14) 17 rfl (fun T40 h40 X40 e40 W40 => ?_)
  have N41 := Fr.snoc X40 N4 ga
  have Z42 : n0 ≤ h40.size := by rw [W40.size]; exact Z24
  have E43 := E25.wr W40
  have F44 := F26.other W40 (Or.inr (sn_13 hw))
  have F45 := F27.other W40 (Or.inr (sn_14 hw))
  have F46 := F28.other W40 (Or.inr (sn_15 hw))
  have F47 := F29.same W40
  have F48 := F30.other W40 (Or.inr (sn_16 hw))
  have F49 := F31.other W40 (Or.inr (sn_17 hw))
  have F50 := F32.other W40 (Or.inr (sn_18 hw))
  have F51 := F33.other W40 (Or.inr (sn_19 hw))
  have F52 := F34.other W40 (Or.inr (sn_20 hw))
  have F53 := F35.other W40 (Or.inr (sn_21 hw))
  have F54 := F36.other W40 (Or.inr (sn_22 hw))
  have F55 := F37.other W40 (Or.inr (sn_23 hw))
  have F56 := F38.other W40 (Or.inr (sn_24 hw))
  have F57 := F39.other W40 (Or.inr (sn_25 hw))
  have V58 := V21.other W40 (Ne.symm ne22)
  refine own_aloadN X40 hx (hb hby d2_17) rfl rfl 18 rfl ?_
  refine own_bipush X40 hx (hb hby d2_18) (127 : Int32) rfl 20 rfl ?_
  refine own_newI X40 hx hZ (own_w hw 16 rfl) e40 (hb hby d2_20) 127 rfl 127 (by decide) (by decide) (by decide) (by decide) 22 rfl (fun T59 h59 a59 g59 X59 e59 E59 V59 => ?_)
  have ne60 : a ≠ a59 := by rw [g59]; exact Nat.ne_of_lt E43.lt
  have ne61 : a21 ≠ a59 := by rw [g59]; exact Nat.ne_of_lt V58.lt
  have ge62 : n0 ≤ a59 := by rw [g59]; exact Z42
  have Z63 : n0 ≤ h59.size := Nat.le_trans Z42 E59.1
  have E64 := E43.ext E59
  have F65 := F44.ext E59
  have F66 := F45.ext E59
  have F67 := F46.ext E59
  have F68 := F47.ext E59
  have F69 := F48.ext E59
  have F70 := F49.ext E59
  have F71 := F50.ext E59
  have F72 := F51.ext E59
  have F73 := F52.ext E59
  have F74 := F53.ext E59
  have F75 := F54.ext E59
  have F76 := F55.ext E59
  have F77 := F56.ext E59
  have F78 := F57.ext E59
  have V79 := V58.ext E59
  have o59 : @LT.lt Nat _ a21 a59 := by rw [g59]; exact V58.lt
  refine own_putF X59 hx hZ hown (own_w hw 19 rfl) Via.refl e59 F69 E64 (Or.inr ⟨(own_w hw 20 rfl), rfl, hnm⟩) (own_w hw 1 rfl) (ty := (.array .int)) (v' := (.ref a59)) (by decide) rfl rfl (hb hby d2_22) 25 rfl (fun T80 h80 X80 e80 W80 => ?_)
  have N81 := Fr.snoc X80 N41 ga
  have Z82 : n0 ≤ h80.size := by rw [W80.size]; exact Z63
  have E83 := E64.wr W80
  have F84 := F65.other W80 (Or.inr (sn_26 hw))
  have F85 := F66.other W80 (Or.inr (sn_27 hw))
  have F86 := F67.other W80 (Or.inr (sn_28 hw))
  have F87 := F68.other W80 (Or.inr (sn_29 hw))
  have F88 := F69.same W80
  have F89 := F70.other W80 (Or.inr (sn_30 hw))
  have F90 := F71.other W80 (Or.inr (sn_31 hw))
  have F91 := F72.other W80 (Or.inr (sn_32 hw))
  have F92 := F73.other W80 (Or.inr (sn_33 hw))
  have F93 := F74.other W80 (Or.inr (sn_34 hw))
  have F94 := F75.other W80 (Or.inr (sn_35 hw))
  have F95 := F76.other W80 (Or.inr (sn_36 hw))
  have F96 := F77.other W80 (Or.inr (sn_37 hw))
  have F97 := F78.other W80 (Or.inr (sn_38 hw))
  have V98 := V79.other W80 (Ne.symm ne22)
  have V99 := V59.other W80 (Ne.symm ne60)
  refine own_aloadN X80 hx (hb hby d2_25) rfl rfl 26 rfl ?_
  refine own_iloadN X80 hx (hb hby d2_26) rfl 27 rfl ?_
  refine own_newI X80 hx hZ (own_w hw 16 rfl) e80 (hb hby d2_27) 2 rfl 2 (by decide) (by decide) (by decide) (by decide) 29 rfl (fun T100 h100 a100 g100 X100 e100 E100 V100 => ?_)
  have ne101 : a ≠ a100 := by rw [g100]; exact Nat.ne_of_lt E83.lt
  have ne102 : a21 ≠ a100 := by rw [g100]; exact Nat.ne_of_lt V98.lt
  have ne103 : a59 ≠ a100 := by rw [g100]; exact Nat.ne_of_lt V99.lt
  have ge104 : n0 ≤ a100 := by rw [g100]; exact Z82
  have Z105 : n0 ≤ h100.size := Nat.le_trans Z82 E100.1
  have E106 := E83.ext E100
  have F107 := F84.ext E100
  have F108 := F85.ext E100
  have F109 := F86.ext E100
  have F110 := F87.ext E100
  have F111 := F88.ext E100
  have F112 := F89.ext E100
  have F113 := F90.ext E100
  have F114 := F91.ext E100
  have F115 := F92.ext E100
  have F116 := F93.ext E100
  have F117 := F94.ext E100
  have F118 := F95.ext E100
  have F119 := F96.ext E100
  have F120 := F97.ext E100
  have V121 := V98.ext E100
  have V122 := V99.ext E100
  have o100 : @LT.lt Nat _ a59 a100 := by rw [g100]; exact V99.lt
  refine own_putF X100 hx hZ hown (own_w hw 21 rfl) Via.refl e100 F112 E106 (Or.inr ⟨(own_w hw 22 rfl), rfl, hnm⟩) (own_w hw 1 rfl) (ty := (.array .int)) (v' := (.ref a100)) (by decide) rfl rfl (hb hby d2_29) 32 rfl (fun T123 h123 X123 e123 W123 => ?_)
  have N124 := Fr.snoc X123 N81 ga
  have Z125 : n0 ≤ h123.size := by rw [W123.size]; exact Z105
  have E126 := E106.wr W123
  have F127 := F107.other W123 (Or.inr (sn_39 hw))
  have F128 := F108.other W123 (Or.inr (sn_40 hw))
  have F129 := F109.other W123 (Or.inr (sn_41 hw))
  have F130 := F110.other W123 (Or.inr (sn_42 hw))
  have F131 := F111.other W123 (Or.inr (sn_43 hw))
  have F132 := F112.same W123
  have F133 := F113.other W123 (Or.inr (sn_44 hw))
  have F134 := F114.other W123 (Or.inr (sn_45 hw))
  have F135 := F115.other W123 (Or.inr (sn_46 hw))
  have F136 := F116.other W123 (Or.inr (sn_47 hw))
  have F137 := F117.other W123 (Or.inr (sn_48 hw))
  have F138 := F118.other W123 (Or.inr (sn_49 hw))
  have F139 := F119.other W123 (Or.inr (sn_50 hw))
  have F140 := F120.other W123 (Or.inr (sn_51 hw))
  have V141 := V121.other W123 (Ne.symm ne22)
  have V142 := V122.other W123 (Ne.symm ne60)
  have V143 := V100.other W123 (Ne.symm ne101)
  refine own_aloadN X123 hx (hb hby d2_32) rfl rfl 33 rfl ?_
  refine own_iloadN X123 hx (hb hby d2_33) rfl 34 rfl ?_
  refine own_newI X123 hx hZ (own_w hw 16 rfl) e123 (hb hby d2_34) 2 rfl 2 (by decide) (by decide) (by decide) (by decide) 36 rfl (fun T144 h144 a144 g144 X144 e144 E144 V144 => ?_)
  have ne145 : a ≠ a144 := by rw [g144]; exact Nat.ne_of_lt E126.lt
  have ne146 : a21 ≠ a144 := by rw [g144]; exact Nat.ne_of_lt V141.lt
  have ne147 : a59 ≠ a144 := by rw [g144]; exact Nat.ne_of_lt V142.lt
  have ne148 : a100 ≠ a144 := by rw [g144]; exact Nat.ne_of_lt V143.lt
  have ge149 : n0 ≤ a144 := by rw [g144]; exact Z125
  have Z150 : n0 ≤ h144.size := Nat.le_trans Z125 E144.1
  have E151 := E126.ext E144
  have F152 := F127.ext E144
  have F153 := F128.ext E144
  have F154 := F129.ext E144
  have F155 := F130.ext E144
  have F156 := F131.ext E144
  have F157 := F132.ext E144
  have F158 := F133.ext E144
  have F159 := F134.ext E144
  have F160 := F135.ext E144
  have F161 := F136.ext E144
  have F162 := F137.ext E144
  have F163 := F138.ext E144
  have F164 := F139.ext E144
  have F165 := F140.ext E144
  have V166 := V141.ext E144
  have V167 := V142.ext E144
  have V168 := V143.ext E144
  have o144 : @LT.lt Nat _ a100 a144 := by rw [g144]; exact V143.lt
  refine own_putF X144 hx hZ hown (own_w hw 23 rfl) Via.refl e144 F158 E151 (Or.inr ⟨(own_w hw 24 rfl), rfl, hnm⟩) (own_w hw 1 rfl) (ty := (.array .int)) (v' := (.ref a144)) (by decide) rfl rfl (hb hby d2_36) 39 rfl (fun T169 h169 X169 e169 W169 => ?_)
  have N170 := Fr.snoc X169 N124 ga
  have Z171 : n0 ≤ h169.size := by rw [W169.size]; exact Z150
  have E172 := E151.wr W169
  have F173 := F152.other W169 (Or.inr (sn_52 hw))
  have F174 := F153.other W169 (Or.inr (sn_53 hw))
  have F175 := F154.other W169 (Or.inr (sn_54 hw))
  have F176 := F155.other W169 (Or.inr (sn_55 hw))
  have F177 := F156.other W169 (Or.inr (sn_56 hw))
  have F178 := F157.other W169 (Or.inr (sn_57 hw))
  have F179 := F158.same W169
  have F180 := F159.other W169 (Or.inr (sn_58 hw))
  have F181 := F160.other W169 (Or.inr (sn_59 hw))
  have F182 := F161.other W169 (Or.inr (sn_60 hw))
  have F183 := F162.other W169 (Or.inr (sn_61 hw))
  have F184 := F163.other W169 (Or.inr (sn_62 hw))
  have F185 := F164.other W169 (Or.inr (sn_63 hw))
  have F186 := F165.other W169 (Or.inr (sn_64 hw))
  have V187 := V166.other W169 (Ne.symm ne22)
  have V188 := V167.other W169 (Ne.symm ne60)
  have V189 := V168.other W169 (Ne.symm ne101)
  have V190 := V144.other W169 (Ne.symm ne145)
  refine own_iconst X169 hx (hb hby d2_39) (0 : Int32) rfl 40 rfl ?_
  refine own_istoreN X169 hx (hb hby d2_40) #[.val (.ref a), .val (.int (2 : Int32)), .val (.int (2 : Int32)), .val (.int (0 : Int32))] rfl 41 rfl ?_
  refine own_iloadN X169 hx (hb hby d2_41) rfl 42 rfl ?_
  refine own_iloadN X169 hx (hb hby d2_42) rfl 43 rfl ?_
  refine own_icmpN X169 hx (hb hby d2_43) (tlt (by decide)).2.1 46 rfl ?_
  refine own_aloadN X169 hx (hb hby d2_46) rfl rfl 47 rfl ?_
  refine own_getF X169 hx hZ hown (own_w hw 23 rfl) Via.refl e169 F179 (hb hby d2_47) 50 rfl (fun T191 X191 e191 => ?_)
  refine own_iloadN X191 hx (hb hby d2_50) rfl 51 rfl ?_
  refine own_iloadN X191 hx (hb hby d2_51) rfl 52 rfl ?_
  refine own_iconst X191 hx (hb hby d2_52) (1 : Int32) rfl 53 rfl ?_
  refine own_isub X191 hx (hb hby d2_53) 54 rfl ?_
  show own_Go p e below G (T191.setTop (mkF m 54 #[.val (.ref a), .val (.int (2 : Int32)), .val (.int (2 : Int32)), .val (.int (0 : Int32))] [(.int (1 : Int32)), (.int (0 : Int32)), (.ref a144)]))
  refine own_iloadN X191 hx (hb hby d2_54) rfl 55 rfl ?_
  refine own_isub X191 hx (hb hby d2_55) 56 rfl ?_
  show own_Go p e below G (T191.setTop (mkF m 56 #[.val (.ref a), .val (.int (2 : Int32)), .val (.int (2 : Int32)), .val (.int (0 : Int32))] [(.int (1 : Int32)), (.int (0 : Int32)), (.ref a144)]))
  rw [show (List.replicate 2 (0 : Int32)) = [(0 : Int32), (0 : Int32)] from rfl] at V190
  refine own_iastore X191 hx hZ e191 V190 0 rfl (by simp) (hb hby d2_56) 57 rfl (fun T192 h192 X192 e192 W192 V192 => ?_)
  rw [show [(0 : Int32), (0 : Int32)].set 0 (1 : Int32) = [(1 : Int32), (0 : Int32)] from rfl] at V192
  have N193 := Fr.snoc X192 N170 ge149
  have Z194 : n0 ≤ h192.size := by rw [W192.size]; exact Z171
  have E195 := E172.wr W192
  have F196 := F173.other W192 (Or.inl ne145)
  have F197 := F174.other W192 (Or.inl ne145)
  have F198 := F175.other W192 (Or.inl ne145)
  have F199 := F176.other W192 (Or.inl ne145)
  have F200 := F177.other W192 (Or.inl ne145)
  have F201 := F178.other W192 (Or.inl ne145)
  have F202 := F179.other W192 (Or.inl ne145)
  have F203 := F180.other W192 (Or.inl ne145)
  have F204 := F181.other W192 (Or.inl ne145)
  have F205 := F182.other W192 (Or.inl ne145)
  have F206 := F183.other W192 (Or.inl ne145)
  have F207 := F184.other W192 (Or.inl ne145)
  have F208 := F185.other W192 (Or.inl ne145)
  have F209 := F186.other W192 (Or.inl ne145)
  have V210 := V187.other W192 ne146
  have V211 := V188.other W192 ne147
  have V212 := V189.other W192 ne148
  refine own_iinc X192 hx (hb hby d2_57) rfl #[.val (.ref a), .val (.int (2 : Int32)), .val (.int (2 : Int32)), .val (.int (1 : Int32))] rfl 60 rfl ?_
  refine own_goto X192 hx (hb hby d2_60) 41 ⟨by decide, by decide⟩ ?_
  refine own_iloadN X192 hx (hb hby d2_41) rfl 42 rfl ?_
  refine own_iloadN X192 hx (hb hby d2_42) rfl 43 rfl ?_
  refine own_icmpN X192 hx (hb hby d2_43) (tlt (by decide)).2.1 46 rfl ?_
  refine own_aloadN X192 hx (hb hby d2_46) rfl rfl 47 rfl ?_
  refine own_getF X192 hx hZ hown (own_w hw 23 rfl) Via.refl e192 F202 (hb hby d2_47) 50 rfl (fun T213 X213 e213 => ?_)
  refine own_iloadN X213 hx (hb hby d2_50) rfl 51 rfl ?_
  refine own_iloadN X213 hx (hb hby d2_51) rfl 52 rfl ?_
  refine own_iconst X213 hx (hb hby d2_52) (1 : Int32) rfl 53 rfl ?_
  refine own_isub X213 hx (hb hby d2_53) 54 rfl ?_
  show own_Go p e below G (T213.setTop (mkF m 54 #[.val (.ref a), .val (.int (2 : Int32)), .val (.int (2 : Int32)), .val (.int (1 : Int32))] [(.int (1 : Int32)), (.int (1 : Int32)), (.ref a144)]))
  refine own_iloadN X213 hx (hb hby d2_54) rfl 55 rfl ?_
  refine own_isub X213 hx (hb hby d2_55) 56 rfl ?_
  show own_Go p e below G (T213.setTop (mkF m 56 #[.val (.ref a), .val (.int (2 : Int32)), .val (.int (2 : Int32)), .val (.int (1 : Int32))] [(.int (0 : Int32)), (.int (1 : Int32)), (.ref a144)]))
  refine own_iastore X213 hx hZ e213 V192 1 rfl (by simp) (hb hby d2_56) 57 rfl (fun T214 h214 X214 e214 W214 V214 => ?_)
  rw [show [(1 : Int32), (0 : Int32)].set 1 (0 : Int32) = [(1 : Int32), (0 : Int32)] from rfl] at V214
  have N215 := Fr.snoc X214 N193 ge149
  have Z216 : n0 ≤ h214.size := by rw [W214.size]; exact Z194
  have E217 := E195.wr W214
  have F218 := F196.other W214 (Or.inl ne145)
  have F219 := F197.other W214 (Or.inl ne145)
  have F220 := F198.other W214 (Or.inl ne145)
  have F221 := F199.other W214 (Or.inl ne145)
  have F222 := F200.other W214 (Or.inl ne145)
  have F223 := F201.other W214 (Or.inl ne145)
  have F224 := F202.other W214 (Or.inl ne145)
  have F225 := F203.other W214 (Or.inl ne145)
  have F226 := F204.other W214 (Or.inl ne145)
  have F227 := F205.other W214 (Or.inl ne145)
  have F228 := F206.other W214 (Or.inl ne145)
  have F229 := F207.other W214 (Or.inl ne145)
  have F230 := F208.other W214 (Or.inl ne145)
  have F231 := F209.other W214 (Or.inl ne145)
  have V232 := V210.other W214 ne146
  have V233 := V211.other W214 ne147
  have V234 := V212.other W214 ne148
  refine own_iinc X214 hx (hb hby d2_57) rfl #[.val (.ref a), .val (.int (2 : Int32)), .val (.int (2 : Int32)), .val (.int (2 : Int32))] rfl 60 rfl ?_
  refine own_goto X214 hx (hb hby d2_60) 41 ⟨by decide, by decide⟩ ?_
  refine own_iloadN X214 hx (hb hby d2_41) rfl 42 rfl ?_
  refine own_iloadN X214 hx (hb hby d2_42) rfl 43 rfl ?_
  refine own_icmpY X214 hx (hb hby d2_43) (flt (by decide)).2.1 63 ⟨by decide, by decide⟩ ?_
  refine own_aloadN X214 hx (hb hby d2_63) rfl rfl 64 rfl ?_
  refine own_iloadN X214 hx (hb hby d2_64) rfl 65 rfl ?_
  refine own_putF X214 hx hZ hown (own_w hw 25 rfl) Via.refl e214 F219 E217 (Or.inl (own_w hw 26 rfl)) (own_w hw 1 rfl) (ty := .int) (v' := (.int (2 : Int32))) (by decide) rfl rfl (hb hby d2_65) 68 rfl (fun T235 h235 X235 e235 W235 => ?_)
  have N236 := Fr.snoc X235 N215 ga
  have Z237 : n0 ≤ h235.size := by rw [W235.size]; exact Z216
  have E238 := E217.wr W235
  have F239 := F218.other W235 (Or.inr (sn_65 hw))
  have F240 := F219.same W235
  have F241 := F220.other W235 (Or.inr (sn_66 hw))
  have F242 := F221.other W235 (Or.inr (sn_67 hw))
  have F243 := F222.other W235 (Or.inr (sn_68 hw))
  have F244 := F223.other W235 (Or.inr (sn_69 hw))
  have F245 := F224.other W235 (Or.inr (sn_70 hw))
  have F246 := F225.other W235 (Or.inr (sn_71 hw))
  have F247 := F226.other W235 (Or.inr (sn_72 hw))
  have F248 := F227.other W235 (Or.inr (sn_73 hw))
  have F249 := F228.other W235 (Or.inr (sn_74 hw))
  have F250 := F229.other W235 (Or.inr (sn_75 hw))
  have F251 := F230.other W235 (Or.inr (sn_76 hw))
  have F252 := F231.other W235 (Or.inr (sn_77 hw))
  have V253 := V232.other W235 (Ne.symm ne22)
  have V254 := V233.other W235 (Ne.symm ne60)
  have V255 := V234.other W235 (Ne.symm ne101)
  have V256 := V214.other W235 (Ne.symm ne145)
  refine own_aloadN X235 hx (hb hby d2_68) rfl rfl 69 rfl ?_
  refine own_iloadN X235 hx (hb hby d2_69) rfl 70 rfl ?_
  refine own_newIE X235 hx hZ (own_w hw 16 rfl) e235 (hb hby d2_70) 2 rfl 2 (by decide) (by decide) (by decide) (by decide) 72 rfl (fun T257 h257 a257 g257 X257 e257 E257 V257 Ex257 => ?_)
  have o257 : @LT.lt Nat _ a144 a257 := by rw [g257]; exact V256.lt
  have ne258 : a ≠ a257 := by rw [g257]; exact Nat.ne_of_lt E238.lt
  have ne259 : a21 ≠ a257 := by rw [g257]; exact Nat.ne_of_lt V253.lt
  have ne260 : a59 ≠ a257 := by rw [g257]; exact Nat.ne_of_lt V254.lt
  have ne261 : a100 ≠ a257 := by rw [g257]; exact Nat.ne_of_lt V255.lt
  have ne262 : a144 ≠ a257 := by rw [g257]; exact Nat.ne_of_lt V256.lt
  have ge263 : n0 ≤ a257 := by rw [g257]; exact Z237
  have Z264 : n0 ≤ h257.size := Nat.le_trans Z237 E257.1
  have E265 := E238.ext E257
  have F266 := F239.ext E257
  have F267 := F240.ext E257
  have F268 := F241.ext E257
  have F269 := F242.ext E257
  have F270 := F243.ext E257
  have F271 := F244.ext E257
  have F272 := F245.ext E257
  have F273 := F246.ext E257
  have F274 := F247.ext E257
  have F275 := F248.ext E257
  have F276 := F249.ext E257
  have F277 := F250.ext E257
  have F278 := F251.ext E257
  have F279 := F252.ext E257
  have V280 := V253.ext E257
  have V281 := V254.ext E257
  have V282 := V255.ext E257
  have V283 := V256.ext E257
  refine own_putF X257 hx hZ hown (own_w hw 27 rfl) Via.refl e257 F273 E265 (Or.inr ⟨(own_w hw 28 rfl), rfl, hnm⟩) (own_w hw 1 rfl) (ty := (.array .int)) (v' := (.ref a257)) (by decide) rfl rfl (hb hby d2_72) 75 rfl (fun T284 h284 X284 e284 W284 => ?_)
  have N285 := Fr.snoc X284 N236 ga
  have Z286 : n0 ≤ h284.size := by rw [W284.size]; exact Z264
  have E287 := E265.wr W284
  have F288 := F266.other W284 (Or.inr (sn_78 hw))
  have F289 := F267.other W284 (Or.inr (sn_79 hw))
  have F290 := F268.other W284 (Or.inr (sn_80 hw))
  have F291 := F269.other W284 (Or.inr (sn_81 hw))
  have F292 := F270.other W284 (Or.inr (sn_82 hw))
  have F293 := F271.other W284 (Or.inr (sn_83 hw))
  have F294 := F272.other W284 (Or.inr (sn_84 hw))
  have F295 := F273.same W284
  have F296 := F274.other W284 (Or.inr (sn_85 hw))
  have F297 := F275.other W284 (Or.inr (sn_86 hw))
  have F298 := F276.other W284 (Or.inr (sn_87 hw))
  have F299 := F277.other W284 (Or.inr (sn_88 hw))
  have F300 := F278.other W284 (Or.inr (sn_89 hw))
  have F301 := F279.other W284 (Or.inr (sn_90 hw))
  have V302 := V280.other W284 (Ne.symm ne22)
  have V303 := V281.other W284 (Ne.symm ne60)
  have V304 := V282.other W284 (Ne.symm ne101)
  have V305 := V283.other W284 (Ne.symm ne145)
  have V306 := V257.other W284 (Ne.symm ne258)
  have E307 := Ex257.wr W284
  refine own_aloadN X284 hx (hb hby d2_75) rfl rfl 76 rfl ?_
  refine own_iloadN X284 hx (hb hby d2_76) rfl 77 rfl ?_
  refine own_newIE X284 hx hZ (own_w hw 16 rfl) e284 (hb hby d2_77) 2 rfl 2 (by decide) (by decide) (by decide) (by decide) 79 rfl (fun T308 h308 a308 g308 X308 e308 E308 V308 Ex308 => ?_)
  have o308 : @LT.lt Nat _ a257 a308 := by rw [g308]; exact V306.lt
  have ne309 : a ≠ a308 := by rw [g308]; exact Nat.ne_of_lt E287.lt
  have ne310 : a21 ≠ a308 := by rw [g308]; exact Nat.ne_of_lt V302.lt
  have ne311 : a59 ≠ a308 := by rw [g308]; exact Nat.ne_of_lt V303.lt
  have ne312 : a100 ≠ a308 := by rw [g308]; exact Nat.ne_of_lt V304.lt
  have ne313 : a144 ≠ a308 := by rw [g308]; exact Nat.ne_of_lt V305.lt
  have ne314 : a257 ≠ a308 := by rw [g308]; exact Nat.ne_of_lt V306.lt
  have ge315 : n0 ≤ a308 := by rw [g308]; exact Z286
  have Z316 : n0 ≤ h308.size := Nat.le_trans Z286 E308.1
  have E317 := E287.ext E308
  have F318 := F288.ext E308
  have F319 := F289.ext E308
  have F320 := F290.ext E308
  have F321 := F291.ext E308
  have F322 := F292.ext E308
  have F323 := F293.ext E308
  have F324 := F294.ext E308
  have F325 := F295.ext E308
  have F326 := F296.ext E308
  have F327 := F297.ext E308
  have F328 := F298.ext E308
  have F329 := F299.ext E308
  have F330 := F300.ext E308
  have F331 := F301.ext E308
  have V332 := V302.ext E308
  have V333 := V303.ext E308
  have V334 := V304.ext E308
  have V335 := V305.ext E308
  have V336 := V306.ext E308
  have E337 := E307.ext E308
  refine own_putF X308 hx hZ hown (own_w hw 29 rfl) Via.refl e308 F326 E317 (Or.inr ⟨(own_w hw 30 rfl), rfl, hnm⟩) (own_w hw 1 rfl) (ty := (.array .int)) (v' := (.ref a308)) (by decide) rfl rfl (hb hby d2_79) 82 rfl (fun T338 h338 X338 e338 W338 => ?_)
  have N339 := Fr.snoc X338 N285 ga
  have Z340 : n0 ≤ h338.size := by rw [W338.size]; exact Z316
  have E341 := E317.wr W338
  have F342 := F318.other W338 (Or.inr (sn_91 hw))
  have F343 := F319.other W338 (Or.inr (sn_92 hw))
  have F344 := F320.other W338 (Or.inr (sn_93 hw))
  have F345 := F321.other W338 (Or.inr (sn_94 hw))
  have F346 := F322.other W338 (Or.inr (sn_95 hw))
  have F347 := F323.other W338 (Or.inr (sn_96 hw))
  have F348 := F324.other W338 (Or.inr (sn_97 hw))
  have F349 := F325.other W338 (Or.inr (sn_98 hw))
  have F350 := F326.same W338
  have F351 := F327.other W338 (Or.inr (sn_99 hw))
  have F352 := F328.other W338 (Or.inr (sn_100 hw))
  have F353 := F329.other W338 (Or.inr (sn_101 hw))
  have F354 := F330.other W338 (Or.inr (sn_102 hw))
  have F355 := F331.other W338 (Or.inr (sn_103 hw))
  have V356 := V332.other W338 (Ne.symm ne22)
  have V357 := V333.other W338 (Ne.symm ne60)
  have V358 := V334.other W338 (Ne.symm ne101)
  have V359 := V335.other W338 (Ne.symm ne145)
  have V360 := V336.other W338 (Ne.symm ne258)
  have E361 := E337.wr W338
  have V362 := V308.other W338 (Ne.symm ne309)
  have E363 := Ex308.wr W338
  refine own_aloadN X338 hx (hb hby d2_82) rfl rfl 83 rfl ?_
  refine own_iconst X338 hx (hb hby d2_83) (2 : Int32) rfl 84 rfl ?_
  refine own_newAA X338 hx hZ hown (own_w hw 31 rfl) (own_w hw 32 rfl) e338 (hb hby d2_84) (by decide) (by decide) 87 rfl (fun T364 h364 a364 c364 g364 X364 e364 E364 V364 O364 => ?_)
  have o364 : @LT.lt Nat _ a308 a364 := by rw [g364]; exact V362.lt
  have ne365 : a ≠ a364 := by rw [g364]; exact Nat.ne_of_lt E341.lt
  have ne366 : a21 ≠ a364 := by rw [g364]; exact Nat.ne_of_lt V356.lt
  have ne367 : a59 ≠ a364 := by rw [g364]; exact Nat.ne_of_lt V357.lt
  have ne368 : a100 ≠ a364 := by rw [g364]; exact Nat.ne_of_lt V358.lt
  have ne369 : a144 ≠ a364 := by rw [g364]; exact Nat.ne_of_lt V359.lt
  have ne370 : a257 ≠ a364 := by rw [g364]; exact Nat.ne_of_lt V360.lt
  have ne371 : a308 ≠ a364 := by rw [g364]; exact Nat.ne_of_lt V362.lt
  have ge372 : n0 ≤ a364 := by rw [g364]; exact Z340
  have Z373 : n0 ≤ h364.size := Nat.le_trans Z340 E364.1
  have E374 := E341.ext E364
  have F375 := F342.ext E364
  have F376 := F343.ext E364
  have F377 := F344.ext E364
  have F378 := F345.ext E364
  have F379 := F346.ext E364
  have F380 := F347.ext E364
  have F381 := F348.ext E364
  have F382 := F349.ext E364
  have F383 := F350.ext E364
  have F384 := F351.ext E364
  have F385 := F352.ext E364
  have F386 := F353.ext E364
  have F387 := F354.ext E364
  have F388 := F355.ext E364
  have V389 := V356.ext E364
  have V390 := V357.ext E364
  have V391 := V358.ext E364
  have V392 := V359.ext E364
  have V393 := V360.ext E364
  have E394 := E361.ext E364
  have V395 := V362.ext E364
  have E396 := E363.ext E364
  refine own_dup X364 hx (hb hby d2_87) rfl 88 rfl ?_
  refine own_iconst X364 hx (hb hby d2_88) (0 : Int32) rfl 89 rfl ?_
  refine own_aloadN X364 hx (hb hby d2_89) rfl rfl 90 rfl ?_
  refine own_getF X364 hx hZ hown (own_w hw 27 rfl) Via.refl e364 F382 (hb hby d2_90) 93 rfl (fun T397 X397 e397 => ?_)
  refine own_stAA X397 hx hZ e397 V364 O364 (Ins.self E394) 0 rfl (by show 0 < 2; decide) (hb hby d2_93) 94 rfl (fun T398 h398 X398 e398 W398 V398 => ?_)
  have N399 := Fr.snoc X398 N339 ge372
  have Z400 : n0 ≤ h398.size := by rw [W398.size]; exact Z373
  have E401 := E374.wr W398
  have F402 := F375.other W398 (Or.inl ne365)
  have F403 := F376.other W398 (Or.inl ne365)
  have F404 := F377.other W398 (Or.inl ne365)
  have F405 := F378.other W398 (Or.inl ne365)
  have F406 := F379.other W398 (Or.inl ne365)
  have F407 := F380.other W398 (Or.inl ne365)
  have F408 := F381.other W398 (Or.inl ne365)
  have F409 := F382.other W398 (Or.inl ne365)
  have F410 := F383.other W398 (Or.inl ne365)
  have F411 := F384.other W398 (Or.inl ne365)
  have F412 := F385.other W398 (Or.inl ne365)
  have F413 := F386.other W398 (Or.inl ne365)
  have F414 := F387.other W398 (Or.inl ne365)
  have F415 := F388.other W398 (Or.inl ne365)
  have V416 := V389.other W398 ne366
  have V417 := V390.other W398 ne367
  have V418 := V391.other W398 ne368
  have V419 := V392.other W398 ne369
  have V420 := V393.other W398 ne370
  have E421 := E394.wr W398
  have V422 := V395.other W398 ne371
  have E423 := E396.wr W398
  refine own_dup X398 hx (hb hby d2_94) rfl 95 rfl ?_
  refine own_iconst X398 hx (hb hby d2_95) (1 : Int32) rfl 96 rfl ?_
  refine own_aloadN X398 hx (hb hby d2_96) rfl rfl 97 rfl ?_
  refine own_getF X398 hx hZ hown (own_w hw 29 rfl) Via.refl e398 F410 (hb hby d2_97) 100 rfl (fun T424 X424 e424 => ?_)
  refine own_stAA X424 hx hZ e424 V398 O364 (Ins.self E423) 1 rfl (by show 1 < 2; decide) (hb hby d2_100) 101 rfl (fun T425 h425 X425 e425 W425 V425 => ?_)
  have N426 := Fr.snoc X425 N399 ge372
  have Z427 : n0 ≤ h425.size := by rw [W425.size]; exact Z400
  have E428 := E401.wr W425
  have F429 := F402.other W425 (Or.inl ne365)
  have F430 := F403.other W425 (Or.inl ne365)
  have F431 := F404.other W425 (Or.inl ne365)
  have F432 := F405.other W425 (Or.inl ne365)
  have F433 := F406.other W425 (Or.inl ne365)
  have F434 := F407.other W425 (Or.inl ne365)
  have F435 := F408.other W425 (Or.inl ne365)
  have F436 := F409.other W425 (Or.inl ne365)
  have F437 := F410.other W425 (Or.inl ne365)
  have F438 := F411.other W425 (Or.inl ne365)
  have F439 := F412.other W425 (Or.inl ne365)
  have F440 := F413.other W425 (Or.inl ne365)
  have F441 := F414.other W425 (Or.inl ne365)
  have F442 := F415.other W425 (Or.inl ne365)
  have V443 := V416.other W425 ne366
  have V444 := V417.other W425 ne367
  have V445 := V418.other W425 ne368
  have V446 := V419.other W425 ne369
  have V447 := V420.other W425 ne370
  have E448 := E421.wr W425
  have V449 := V422.other W425 ne371
  have E450 := E423.wr W425
  refine own_putF X425 hx hZ hown (own_w hw 34 rfl) Via.refl e425 F438 E428 (Or.inr ⟨(own_w hw 35 rfl), rfl, hnm⟩) (own_w hw 1 rfl) (ty := (.array (.array .int))) (v' := (.ref a364)) (by decide) rfl rfl (hb hby d2_101) 104 rfl (fun T451 h451 X451 e451 W451 => ?_)
  have N452 := Fr.snoc X451 N426 ga
  have Z453 : n0 ≤ h451.size := by rw [W451.size]; exact Z427
  have E454 := E428.wr W451
  have F455 := F429.other W451 (Or.inr (sn_104 hw))
  have F456 := F430.other W451 (Or.inr (sn_105 hw))
  have F457 := F431.other W451 (Or.inr (sn_106 hw))
  have F458 := F432.other W451 (Or.inr (sn_107 hw))
  have F459 := F433.other W451 (Or.inr (sn_108 hw))
  have F460 := F434.other W451 (Or.inr (sn_109 hw))
  have F461 := F435.other W451 (Or.inr (sn_110 hw))
  have F462 := F436.other W451 (Or.inr (sn_111 hw))
  have F463 := F437.other W451 (Or.inr (sn_112 hw))
  have F464 := F438.same W451
  have F465 := F439.other W451 (Or.inr (sn_113 hw))
  have F466 := F440.other W451 (Or.inr (sn_114 hw))
  have F467 := F441.other W451 (Or.inr (sn_115 hw))
  have F468 := F442.other W451 (Or.inr (sn_116 hw))
  have V469 := V443.other W451 (Ne.symm ne22)
  have V470 := V444.other W451 (Ne.symm ne60)
  have V471 := V445.other W451 (Ne.symm ne101)
  have V472 := V446.other W451 (Ne.symm ne145)
  have V473 := V447.other W451 (Ne.symm ne258)
  have E474 := E448.wr W451
  have V475 := V449.other W451 (Ne.symm ne309)
  have E476 := E450.wr W451
  have V477 := V425.other W451 (Ne.symm ne365)
  refine own_aloadN X451 hx (hb hby d2_104) rfl rfl 105 rfl ?_
  refine own_iloadN X451 hx (hb hby d2_105) rfl 106 rfl ?_
  refine own_newB X451 hx hZ (own_w hw 36 rfl) e451 (hb hby d2_106) 2 rfl 2 (by decide) (by decide) (by decide) (by decide) 108 rfl (fun T478 h478 a478 g478 X478 e478 E478 V478 => ?_)
  have ne479 : a ≠ a478 := by rw [g478]; exact Nat.ne_of_lt E454.lt
  have ne480 : a21 ≠ a478 := by rw [g478]; exact Nat.ne_of_lt V469.lt
  have ne481 : a59 ≠ a478 := by rw [g478]; exact Nat.ne_of_lt V470.lt
  have ne482 : a100 ≠ a478 := by rw [g478]; exact Nat.ne_of_lt V471.lt
  have ne483 : a144 ≠ a478 := by rw [g478]; exact Nat.ne_of_lt V472.lt
  have ne484 : a257 ≠ a478 := by rw [g478]; exact Nat.ne_of_lt V473.lt
  have ne485 : a308 ≠ a478 := by rw [g478]; exact Nat.ne_of_lt V475.lt
  have ne486 : a364 ≠ a478 := by rw [g478]; exact Nat.ne_of_lt V477.lt
  have ge487 : n0 ≤ a478 := by rw [g478]; exact Z453
  have Z488 : n0 ≤ h478.size := Nat.le_trans Z453 E478.1
  have E489 := E454.ext E478
  have F490 := F455.ext E478
  have F491 := F456.ext E478
  have F492 := F457.ext E478
  have F493 := F458.ext E478
  have F494 := F459.ext E478
  have F495 := F460.ext E478
  have F496 := F461.ext E478
  have F497 := F462.ext E478
  have F498 := F463.ext E478
  have F499 := F464.ext E478
  have F500 := F465.ext E478
  have F501 := F466.ext E478
  have F502 := F467.ext E478
  have F503 := F468.ext E478
  have V504 := V469.ext E478
  have V505 := V470.ext E478
  have V506 := V471.ext E478
  have V507 := V472.ext E478
  have V508 := V473.ext E478
  have E509 := E474.ext E478
  have V510 := V475.ext E478
  have E511 := E476.ext E478
  have V512 := V477.ext E478
  have o478 : @LT.lt Nat _ a364 a478 := by rw [g478]; exact V477.lt
  refine own_putF X478 hx hZ hown (own_w hw 37 rfl) Via.refl e478 F500 E489 (Or.inr ⟨(own_w hw 38 rfl), rfl, hnm⟩) (own_w hw 1 rfl) (ty := (.array .byte)) (v' := (.ref a478)) (by decide) rfl rfl (hb hby d2_108) 111 rfl (fun T513 h513 X513 e513 W513 => ?_)
  have N514 := Fr.snoc X513 N452 ga
  have Z515 : n0 ≤ h513.size := by rw [W513.size]; exact Z488
  have E516 := E489.wr W513
  have F517 := F490.other W513 (Or.inr (sn_117 hw))
  have F518 := F491.other W513 (Or.inr (sn_118 hw))
  have F519 := F492.other W513 (Or.inr (sn_119 hw))
  have F520 := F493.other W513 (Or.inr (sn_120 hw))
  have F521 := F494.other W513 (Or.inr (sn_121 hw))
  have F522 := F495.other W513 (Or.inr (sn_122 hw))
  have F523 := F496.other W513 (Or.inr (sn_123 hw))
  have F524 := F497.other W513 (Or.inr (sn_124 hw))
  have F525 := F498.other W513 (Or.inr (sn_125 hw))
  have F526 := F499.other W513 (Or.inr (sn_126 hw))
  have F527 := F500.same W513
  have F528 := F501.other W513 (Or.inr (sn_127 hw))
  have F529 := F502.other W513 (Or.inr (sn_128 hw))
  have F530 := F503.other W513 (Or.inr (sn_129 hw))
  have V531 := V504.other W513 (Ne.symm ne22)
  have V532 := V505.other W513 (Ne.symm ne60)
  have V533 := V506.other W513 (Ne.symm ne101)
  have V534 := V507.other W513 (Ne.symm ne145)
  have V535 := V508.other W513 (Ne.symm ne258)
  have E536 := E509.wr W513
  have V537 := V510.other W513 (Ne.symm ne309)
  have E538 := E511.wr W513
  have V539 := V512.other W513 (Ne.symm ne365)
  have V540 := V478.other W513 (Ne.symm ne479)
  refine own_return X513 hx Bd.notSynchronized hG Bd.returns (hb hby d2_111) (by decide) (by decide) ?_
  rw [e513]
  exact ⟨a21, a59, a100, a144, a257, a308, a364, a478, rfl, N514, Z515, ⟨o21, o59, o100, o144, o257, o308, o364, o478⟩, E516, F517, F518, F519, F520, F521, F522, F523, F524, F525, F526, F527, F528, F529, F530, V531, V532, V533, V534, V535, V537, (own_AV.arr V539), V540⟩
def QP (Z : State) (a : Addr) (h0 : Heap) (n0 : Nat) (v : Option Value) (h : Heap) (L : List Loc) : Prop := ∃ a1_ a2_ a3_ a4_ a5_ a6_ a7_ a8_ a9_ a10_ a11_ : Addr, v = none ∧ Fr n0 L ∧ n0 ≤ h.size ∧ own_Or a a1_ a2_ a3_ a4_ a5_ a6_ a7_ a8_ a9_ a10_ a11_ ∧ own_PE Z h a a1_ a2_ a3_ a4_ a5_ a6_ a7_ a8_ a9_ a10_ a11_ (-1 : Int32) (2 : Int32) (0 : Int32) (List.replicate 127 (0 : Int32)) (List.replicate 127 (0 : Int32)) [(0 : Int32), (0 : Int32)] [(1 : Int32), (0 : Int32)] [(0 : Int32), (0 : Int32)] [(0 : Int32), (0 : Int32)] [(0 : Int32), (0 : Int32)] [(0 : Int64), (0 : Int64)] [(0 : Int64), (0 : Int64)] [(0 : Int64), (0 : Int64)]
theorem ef_rmP (m : MethodId) (x0 : Addr) (x1 : Int32) (x2 : Int32) : entryFrame m #[(.ref x0), (.int x1), (.int x2)] 3 = mkF m 0 #[.val (.ref x0), .val (.int x1), .val (.int x2)] [] := by first | (simp [entryFrame, mkF, argsToLocals, Value.category, maxLocals]; done) | rfl
set_option maxRecDepth 65536 in
set_option maxHeartbeats 40000000 in
theorem rmP (l : Launch) (Z : State) (a0 : Array Value) (hw : ∀ d ∈ tables_1, d.before a0 Z = true) (ws : List Jvm.Cond) (a : Addr) (h0 : Heap) (n0 : Nat) (Z0 : n0 ≤ h0.size) (ga : n0 ≤ a) (E0 : Exa Z h0 a "com/example/equitide/equitide/policy/backfilling/PlannedEnds") (Fi0 : Fld Z h0 a "com/example/equitide/equitide/policy/backfilling/AvlTree" "root" "I" (.int 0)) (Fi1 : Fld Z h0 a "com/example/equitide/equitide/policy/backfilling/AvlTree" "unused" "I" (.int 0)) (Fi2 : Fld Z h0 a "com/example/equitide/equitide/policy/backfilling/AvlTree" "held" "I" (.int 0)) (Fi3 : Fld Z h0 a "com/example/equitide/equitide/policy/backfilling/AvlTree" "path" "[I" .null) (Fi4 : Fld Z h0 a "com/example/equitide/equitide/policy/backfilling/AvlTree" "sides" "[I" .null) (Fi5 : Fld Z h0 a "com/example/equitide/equitide/policy/backfilling/AvlTree" "slotOf" "[I" .null) (Fi6 : Fld Z h0 a "com/example/equitide/equitide/policy/backfilling/AvlTree" "unusedSlots" "[I" .null) (Fi7 : Fld Z h0 a "com/example/equitide/equitide/policy/backfilling/AvlTree" "left" "[I" .null) (Fi8 : Fld Z h0 a "com/example/equitide/equitide/policy/backfilling/AvlTree" "right" "[I" .null) (Fi9 : Fld Z h0 a "com/example/equitide/equitide/policy/backfilling/AvlTree" "children" "[[I" .null) (Fi10 : Fld Z h0 a "com/example/equitide/equitide/policy/backfilling/AvlTree" "height" "[B" .null) (Fi11 : Fld Z h0 a "com/example/equitide/equitide/policy/backfilling/PlannedEnds" "plannedEnd" "[J" .null) (Fi12 : Fld Z h0 a "com/example/equitide/equitide/policy/backfilling/PlannedEnds" "processors" "[J" .null) (Fi13 : Fld Z h0 a "com/example/equitide/equitide/policy/backfilling/PlannedEnds" "below" "[J" .null) :
    MetFree l own_y1 (head1 (Jvm.Cond.code own_y1 prog_66_method_1_code 3 none :: ws) ({ frames := 2, cells := 11, slots := 272, locals := 40 } : Room)) (fun aR U => aR = #[(.ref a), (.int (2 : Int32)), (.int (2 : Int32))] ∧ Z.Warmed39 U.vm ∧ U.heap = h0) (fun _ _ _ _ _ => True) (fun _ U o U' => ∃ v L, o = .returned v ∧ QP Z a h0 n0 v U'.heap L ∧ FrameEnd U o U' L ({ frames := 2, cells := 11, slots := 272, locals := 40 } : Room).cells ({ frames := 2, cells := 11, slots := 272, locals := 40 } : Room).slots) := by
  refine MetFree.of_bodySF pf_1 hisR ?_
  intro p e s m args below meth c s₁ Bd hml0 hP hK
  obtain ⟨rfl, hZ, hhE⟩ := hP
  have hx := Bd.exec
  have hby := Bd.bytes
  have hml : c.maxLocals = 3 := hml0
  have hown : s.vm.findClass "com/example/equitide/equitide/policy/backfilling/PlannedEnds" = some m.cls := findClass_of_methodNamed Bd.named
  have hnm := (name_of_methodNamed Bd.named Bd.method).1
  have X0 : Stand p l e ({ frames := 2, cells := 11, slots := 272, locals := 40 } : Room) s m #[(.ref a), (.int (2 : Int32)), (.int (2 : Int32))] below meth c s₁ [] 0 0 := Stand.of_body Bd
  have e0 : s₁.heap = h0 := by rw [← hhE, Bd.state]; rfl
  have N0 := Fr.nil n0
  show own_Go p e below (own_Post s (QP Z a h0 n0) ({ frames := 2, cells := 11, slots := 272, locals := 40 } : Room).cells ({ frames := 2, cells := 11, slots := 272, locals := 40 } : Room).slots) (s₁.setTop (entryFrame m #[(.ref a), (.int (2 : Int32)), (.int (2 : Int32))] 3))
  rw [ef_rmP]
  generalize hG : own_Post s (QP Z a h0 n0) ({ frames := 2, cells := 11, slots := 272, locals := 40 } : Room).cells ({ frames := 2, cells := 11, slots := 272, locals := 40 } : Room).slots = G
  refine own_aloadN X0 hx (hb hby d1_0) rfl rfl 1 rfl ?_
  refine own_iloadN X0 hx (hb hby d1_1) rfl 2 rfl ?_
  refine own_iloadN X0 hx (hb hby d1_2) rfl 3 rfl ?_
  refine own_callI X0 hx hZ rfl hown (own_w hw 6 rfl) (own_w hw 7 rfl) (own_w hw 9 rfl) (own_w hw 10 rfl) (by decide) e0 (rmA l Z a0 hw [] a h0 n0 Z0 ga E0 Fi0 Fi1 Fi2 Fi3 Fi4 Fi5 Fi6 Fi7 Fi8 Fi9 Fi10 Fi11 Fi12 Fi13) (by rw [hml]; rfl) pd_0 (argsL := [(.int (2 : Int32)), (.int (2 : Int32))]) rfl (rest := []) rfl (hb hby d1_3) 0 (Nat.le_of_eq rfl) (by decide) (by decide) (by decide) (by decide) 6 rfl (fun T541 L541 v541 X541 hQ541 => ?_)
  obtain ⟨a1_, a2_, a3_, a4_, a5_, a6_, a7_, a8_, rfl, N541, Z541, ⟨o1, o2, o3, o4, o5, o6, o7, o8⟩, E541, F0_541, F1_541, F2_541, F3_541, F4_541, F5_541, F6_541, F7_541, F8_541, F9_541, F10_541, F11_541, F12_541, F13_541, V0_541, V1_541, V2_541, V3_541, V4_541, V5_541, V6_541, V7_541⟩ := hQ541
  have N542 := Fr.app N0 N541
  show own_Go p e below G (T541.setTop (mkF m 6 #[.val (.ref a), .val (.int (2 : Int32)), .val (.int (2 : Int32))] []))
  refine own_aloadN X541 hx (hb hby d1_6) rfl rfl 7 rfl ?_
  refine own_iloadN X541 hx (hb hby d1_7) rfl 8 rfl ?_
  refine own_newJ X541 hx hZ (own_w hw 39 rfl) (rfl : T541.heap = T541.heap) (hb hby d1_8) 2 rfl 2 (by decide) (by decide) (by decide) (by decide) 10 rfl (fun T543 h543 a543 g543 X543 e543 E543 V543 => ?_)
  have ne544 : a ≠ a543 := by rw [g543]; exact Nat.ne_of_lt E541.lt
  have ne545 : a1_ ≠ a543 := by rw [g543]; exact Nat.ne_of_lt V0_541.lt
  have ne546 : a2_ ≠ a543 := by rw [g543]; exact Nat.ne_of_lt V1_541.lt
  have ne547 : a3_ ≠ a543 := by rw [g543]; exact Nat.ne_of_lt V2_541.lt
  have ne548 : a4_ ≠ a543 := by rw [g543]; exact Nat.ne_of_lt V3_541.lt
  have ne549 : a5_ ≠ a543 := by rw [g543]; exact Nat.ne_of_lt V4_541.lt
  have ne550 : a6_ ≠ a543 := by rw [g543]; exact Nat.ne_of_lt V5_541.lt
  have ne551 : a7_ ≠ a543 := by rw [g543]; exact Nat.ne_of_lt V6_541.lt
  have ne552 : a8_ ≠ a543 := by rw [g543]; exact Nat.ne_of_lt V7_541.lt
  have ge553 : n0 ≤ a543 := by rw [g543]; exact Z541
  have Z554 : n0 ≤ h543.size := Nat.le_trans Z541 E543.1
  have E555 := E541.ext E543
  have F556 := F0_541.ext E543
  have F557 := F1_541.ext E543
  have F558 := F2_541.ext E543
  have F559 := F3_541.ext E543
  have F560 := F4_541.ext E543
  have F561 := F5_541.ext E543
  have F562 := F6_541.ext E543
  have F563 := F7_541.ext E543
  have F564 := F8_541.ext E543
  have F565 := F9_541.ext E543
  have F566 := F10_541.ext E543
  have F567 := F11_541.ext E543
  have F568 := F12_541.ext E543
  have F569 := F13_541.ext E543
  have V570 := V0_541.ext E543
  have V571 := V1_541.ext E543
  have V572 := V2_541.ext E543
  have V573 := V3_541.ext E543
  have V574 := V4_541.ext E543
  have V575 := V5_541.ext E543
  have V576 := V6_541.ext E543
  have V577 := V7_541.ext E543
  have o543 : @LT.lt Nat _ a8_ a543 := by rw [g543]; exact V7_541.lt
  refine own_putF X543 hx hZ hown (own_w hw 40 rfl) Via.refl e543 F567 E555 (Or.inr ⟨(own_w hw 41 rfl), rfl, hnm⟩) (own_w hw 1 rfl) (ty := (.array .long)) (v' := (.ref a543)) (by decide) rfl rfl (hb hby d1_10) 13 rfl (fun T578 h578 X578 e578 W578 => ?_)
  have N579 := Fr.snoc X578 N542 ga
  have Z580 : n0 ≤ h578.size := by rw [W578.size]; exact Z554
  have E581 := E555.wr W578
  have F582 := F556.other W578 (Or.inr (sn_130 hw))
  have F583 := F557.other W578 (Or.inr (sn_131 hw))
  have F584 := F558.other W578 (Or.inr (sn_132 hw))
  have F585 := F559.other W578 (Or.inr (sn_133 hw))
  have F586 := F560.other W578 (Or.inr (sn_134 hw))
  have F587 := F561.other W578 (Or.inr (sn_135 hw))
  have F588 := F562.other W578 (Or.inr (sn_136 hw))
  have F589 := F563.other W578 (Or.inr (sn_137 hw))
  have F590 := F564.other W578 (Or.inr (sn_138 hw))
  have F591 := F565.other W578 (Or.inr (sn_139 hw))
  have F592 := F566.other W578 (Or.inr (sn_140 hw))
  have F593 := F567.same W578
  have F594 := F568.other W578 (Or.inr (sn_141 hw))
  have F595 := F569.other W578 (Or.inr (sn_142 hw))
  have V596 := V570.other W578 (Ne.symm (Nat.ne_of_lt (by omega)))
  have V597 := V571.other W578 (Ne.symm (Nat.ne_of_lt (by omega)))
  have V598 := V572.other W578 (Ne.symm (Nat.ne_of_lt (by omega)))
  have V599 := V573.other W578 (Ne.symm (Nat.ne_of_lt (by omega)))
  have V600 := V574.other W578 (Ne.symm (Nat.ne_of_lt (by omega)))
  have V601 := V575.other W578 (Ne.symm (Nat.ne_of_lt (by omega)))
  have V602 := V576.other W578 (Ne.symm (Nat.ne_of_lt (by omega)))
  have V603 := V577.other W578 (Ne.symm (Nat.ne_of_lt (by omega)))
  have V604 := V543.other W578 (Ne.symm ne544)
  refine own_aloadN X578 hx (hb hby d1_13) rfl rfl 14 rfl ?_
  refine own_iloadN X578 hx (hb hby d1_14) rfl 15 rfl ?_
  refine own_newJ X578 hx hZ (own_w hw 39 rfl) e578 (hb hby d1_15) 2 rfl 2 (by decide) (by decide) (by decide) (by decide) 17 rfl (fun T605 h605 a605 g605 X605 e605 E605 V605 => ?_)
  have ne606 : a ≠ a605 := by rw [g605]; exact Nat.ne_of_lt E581.lt
  have ne607 : a1_ ≠ a605 := by rw [g605]; exact Nat.ne_of_lt V596.lt
  have ne608 : a2_ ≠ a605 := by rw [g605]; exact Nat.ne_of_lt V597.lt
  have ne609 : a3_ ≠ a605 := by rw [g605]; exact Nat.ne_of_lt V598.lt
  have ne610 : a4_ ≠ a605 := by rw [g605]; exact Nat.ne_of_lt V599.lt
  have ne611 : a5_ ≠ a605 := by rw [g605]; exact Nat.ne_of_lt V600.lt
  have ne612 : a6_ ≠ a605 := by rw [g605]; exact Nat.ne_of_lt V601.lt
  have ne613 : a7_ ≠ a605 := by rw [g605]; exact Nat.ne_of_lt V602.lt
  have ne614 : a8_ ≠ a605 := by rw [g605]; exact Nat.ne_of_lt V603.lt
  have ne615 : a543 ≠ a605 := by rw [g605]; exact Nat.ne_of_lt V604.lt
  have ge616 : n0 ≤ a605 := by rw [g605]; exact Z580
  have Z617 : n0 ≤ h605.size := Nat.le_trans Z580 E605.1
  have E618 := E581.ext E605
  have F619 := F582.ext E605
  have F620 := F583.ext E605
  have F621 := F584.ext E605
  have F622 := F585.ext E605
  have F623 := F586.ext E605
  have F624 := F587.ext E605
  have F625 := F588.ext E605
  have F626 := F589.ext E605
  have F627 := F590.ext E605
  have F628 := F591.ext E605
  have F629 := F592.ext E605
  have F630 := F593.ext E605
  have F631 := F594.ext E605
  have F632 := F595.ext E605
  have V633 := V596.ext E605
  have V634 := V597.ext E605
  have V635 := V598.ext E605
  have V636 := V599.ext E605
  have V637 := V600.ext E605
  have V638 := V601.ext E605
  have V639 := V602.ext E605
  have V640 := V603.ext E605
  have V641 := V604.ext E605
  have o605 : @LT.lt Nat _ a543 a605 := by rw [g605]; exact V604.lt
  refine own_putF X605 hx hZ hown (own_w hw 42 rfl) Via.refl e605 F631 E618 (Or.inr ⟨(own_w hw 43 rfl), rfl, hnm⟩) (own_w hw 1 rfl) (ty := (.array .long)) (v' := (.ref a605)) (by decide) rfl rfl (hb hby d1_17) 20 rfl (fun T642 h642 X642 e642 W642 => ?_)
  have N643 := Fr.snoc X642 N579 ga
  have Z644 : n0 ≤ h642.size := by rw [W642.size]; exact Z617
  have E645 := E618.wr W642
  have F646 := F619.other W642 (Or.inr (sn_143 hw))
  have F647 := F620.other W642 (Or.inr (sn_144 hw))
  have F648 := F621.other W642 (Or.inr (sn_145 hw))
  have F649 := F622.other W642 (Or.inr (sn_146 hw))
  have F650 := F623.other W642 (Or.inr (sn_147 hw))
  have F651 := F624.other W642 (Or.inr (sn_148 hw))
  have F652 := F625.other W642 (Or.inr (sn_149 hw))
  have F653 := F626.other W642 (Or.inr (sn_150 hw))
  have F654 := F627.other W642 (Or.inr (sn_151 hw))
  have F655 := F628.other W642 (Or.inr (sn_152 hw))
  have F656 := F629.other W642 (Or.inr (sn_153 hw))
  have F657 := F630.other W642 (Or.inr (sn_154 hw))
  have F658 := F631.same W642
  have F659 := F632.other W642 (Or.inr (sn_155 hw))
  have V660 := V633.other W642 (Ne.symm (Nat.ne_of_lt (by omega)))
  have V661 := V634.other W642 (Ne.symm (Nat.ne_of_lt (by omega)))
  have V662 := V635.other W642 (Ne.symm (Nat.ne_of_lt (by omega)))
  have V663 := V636.other W642 (Ne.symm (Nat.ne_of_lt (by omega)))
  have V664 := V637.other W642 (Ne.symm (Nat.ne_of_lt (by omega)))
  have V665 := V638.other W642 (Ne.symm (Nat.ne_of_lt (by omega)))
  have V666 := V639.other W642 (Ne.symm (Nat.ne_of_lt (by omega)))
  have V667 := V640.other W642 (Ne.symm (Nat.ne_of_lt (by omega)))
  have V668 := V641.other W642 (Ne.symm ne544)
  have V669 := V605.other W642 (Ne.symm ne606)
  refine own_aloadN X642 hx (hb hby d1_20) rfl rfl 21 rfl ?_
  refine own_iloadN X642 hx (hb hby d1_21) rfl 22 rfl ?_
  refine own_newJ X642 hx hZ (own_w hw 39 rfl) e642 (hb hby d1_22) 2 rfl 2 (by decide) (by decide) (by decide) (by decide) 24 rfl (fun T670 h670 a670 g670 X670 e670 E670 V670 => ?_)
  have ne671 : a ≠ a670 := by rw [g670]; exact Nat.ne_of_lt E645.lt
  have ne672 : a1_ ≠ a670 := by rw [g670]; exact Nat.ne_of_lt V660.lt
  have ne673 : a2_ ≠ a670 := by rw [g670]; exact Nat.ne_of_lt V661.lt
  have ne674 : a3_ ≠ a670 := by rw [g670]; exact Nat.ne_of_lt V662.lt
  have ne675 : a4_ ≠ a670 := by rw [g670]; exact Nat.ne_of_lt V663.lt
  have ne676 : a5_ ≠ a670 := by rw [g670]; exact Nat.ne_of_lt V664.lt
  have ne677 : a6_ ≠ a670 := by rw [g670]; exact Nat.ne_of_lt V665.lt
  have ne678 : a7_ ≠ a670 := by rw [g670]; exact Nat.ne_of_lt V666.lt
  have ne679 : a8_ ≠ a670 := by rw [g670]; exact Nat.ne_of_lt V667.lt
  have ne680 : a543 ≠ a670 := by rw [g670]; exact Nat.ne_of_lt V668.lt
  have ne681 : a605 ≠ a670 := by rw [g670]; exact Nat.ne_of_lt V669.lt
  have ge682 : n0 ≤ a670 := by rw [g670]; exact Z644
  have Z683 : n0 ≤ h670.size := Nat.le_trans Z644 E670.1
  have E684 := E645.ext E670
  have F685 := F646.ext E670
  have F686 := F647.ext E670
  have F687 := F648.ext E670
  have F688 := F649.ext E670
  have F689 := F650.ext E670
  have F690 := F651.ext E670
  have F691 := F652.ext E670
  have F692 := F653.ext E670
  have F693 := F654.ext E670
  have F694 := F655.ext E670
  have F695 := F656.ext E670
  have F696 := F657.ext E670
  have F697 := F658.ext E670
  have F698 := F659.ext E670
  have V699 := V660.ext E670
  have V700 := V661.ext E670
  have V701 := V662.ext E670
  have V702 := V663.ext E670
  have V703 := V664.ext E670
  have V704 := V665.ext E670
  have V705 := V666.ext E670
  have V706 := V667.ext E670
  have V707 := V668.ext E670
  have V708 := V669.ext E670
  have o670 : @LT.lt Nat _ a605 a670 := by rw [g670]; exact V669.lt
  refine own_putF X670 hx hZ hown (own_w hw 44 rfl) Via.refl e670 F698 E684 (Or.inr ⟨(own_w hw 45 rfl), rfl, hnm⟩) (own_w hw 1 rfl) (ty := (.array .long)) (v' := (.ref a670)) (by decide) rfl rfl (hb hby d1_24) 27 rfl (fun T709 h709 X709 e709 W709 => ?_)
  have N710 := Fr.snoc X709 N643 ga
  have Z711 : n0 ≤ h709.size := by rw [W709.size]; exact Z683
  have E712 := E684.wr W709
  have F713 := F685.other W709 (Or.inr (sn_156 hw))
  have F714 := F686.other W709 (Or.inr (sn_157 hw))
  have F715 := F687.other W709 (Or.inr (sn_158 hw))
  have F716 := F688.other W709 (Or.inr (sn_159 hw))
  have F717 := F689.other W709 (Or.inr (sn_160 hw))
  have F718 := F690.other W709 (Or.inr (sn_161 hw))
  have F719 := F691.other W709 (Or.inr (sn_162 hw))
  have F720 := F692.other W709 (Or.inr (sn_163 hw))
  have F721 := F693.other W709 (Or.inr (sn_164 hw))
  have F722 := F694.other W709 (Or.inr (sn_165 hw))
  have F723 := F695.other W709 (Or.inr (sn_166 hw))
  have F724 := F696.other W709 (Or.inr (sn_167 hw))
  have F725 := F697.other W709 (Or.inr (sn_168 hw))
  have F726 := F698.same W709
  have V727 := V699.other W709 (Ne.symm (Nat.ne_of_lt (by omega)))
  have V728 := V700.other W709 (Ne.symm (Nat.ne_of_lt (by omega)))
  have V729 := V701.other W709 (Ne.symm (Nat.ne_of_lt (by omega)))
  have V730 := V702.other W709 (Ne.symm (Nat.ne_of_lt (by omega)))
  have V731 := V703.other W709 (Ne.symm (Nat.ne_of_lt (by omega)))
  have V732 := V704.other W709 (Ne.symm (Nat.ne_of_lt (by omega)))
  have V733 := V705.other W709 (Ne.symm (Nat.ne_of_lt (by omega)))
  have V734 := V706.other W709 (Ne.symm (Nat.ne_of_lt (by omega)))
  have V735 := V707.other W709 (Ne.symm ne544)
  have V736 := V708.other W709 (Ne.symm ne606)
  have V737 := V670.other W709 (Ne.symm ne671)
  have hV8 : own_A .long Value.long Z h709 a543 [(0 : Int64), (0 : Int64)] := V735
  have hV9 : own_A .long Value.long Z h709 a605 [(0 : Int64), (0 : Int64)] := V736
  have hV10 : own_A .long Value.long Z h709 a670 [(0 : Int64), (0 : Int64)] := V737
  refine own_return X709 hx Bd.notSynchronized hG Bd.returns (hb hby d1_27) (by decide) (by decide) ?_
  rw [e709]
  exact ⟨a1_, a2_, a3_, a4_, a5_, a6_, a7_, a8_, a543, a605, a670, rfl, N710, Z711, ⟨o1, o2, o3, o4, o5, o6, o7, o8, o543, o605, o670⟩, ⟨E712, F713, F714, F715, F716, F717, F718, F719, F720, F721, F722, F723, F724, F725, F726, V727, V728, V729, V730, V731, V732, V733, V734, hV8, hV9, hV10⟩⟩
def Q3 (Z : State) (a a1_ a2_ a3_ a4_ a5_ a6_ a7_ a8_ a9_ a10_ a11_ : Addr) (va vb vp : Int64) (h0 : Heap) (n0 : Nat) (v : Option Value) (h : Heap) (L : List Loc) : Prop := v = some (.int (0 : Int32)) ∧ Fr n0 L ∧ n0 ≤ h.size ∧ own_PE Z h a a1_ a2_ a3_ a4_ a5_ a6_ a7_ a8_ a9_ a10_ a11_ (-1 : Int32) (1 : Int32) (0 : Int32) (List.replicate 127 (0 : Int32)) (List.replicate 127 (0 : Int32)) [(0 : Int32), (0 : Int32)] [(1 : Int32), (0 : Int32)] [(-1 : Int32), (0 : Int32)] [(-1 : Int32), (0 : Int32)] [(0 : Int32), (0 : Int32)] [(0 : Int64), (0 : Int64)] [(0 : Int64), (0 : Int64)] [(0 : Int64), (0 : Int64)]
theorem ef_rm3 (m : MethodId) (x0 : Addr) : entryFrame m #[(.ref x0)] 2 = mkF m 0 #[.val (.ref x0), .unset] [] := by first | (simp [entryFrame, mkF, argsToLocals, Value.category, maxLocals]; done) | rfl
set_option maxRecDepth 65536 in
set_option maxHeartbeats 40000000 in
theorem rm3 (l : Launch) (Z : State) (a0 : Array Value) (hw : ∀ d ∈ tables_1, d.before a0 Z = true) (ws : List Jvm.Cond) (a a1_ a2_ a3_ a4_ a5_ a6_ a7_ a8_ a9_ a10_ a11_ : Addr) (va vb vp : Int64) (h0 : Heap) (n0 : Nat) (Z0 : n0 ≤ h0.size) (ga : n0 ≤ a) (hord : own_Or a a1_ a2_ a3_ a4_ a5_ a6_ a7_ a8_ a9_ a10_ a11_) (B : own_PE Z h0 a a1_ a2_ a3_ a4_ a5_ a6_ a7_ a8_ a9_ a10_ a11_ (-1 : Int32) (2 : Int32) (0 : Int32) (List.replicate 127 (0 : Int32)) (List.replicate 127 (0 : Int32)) [(0 : Int32), (0 : Int32)] [(1 : Int32), (0 : Int32)] [(0 : Int32), (0 : Int32)] [(0 : Int32), (0 : Int32)] [(0 : Int32), (0 : Int32)] [(0 : Int64), (0 : Int64)] [(0 : Int64), (0 : Int64)] [(0 : Int64), (0 : Int64)]) :
    MetFree l own_y6 (head1 (Jvm.Cond.code own_y6 prog_49_method_11_code 2 (some .int) :: ws) ({ frames := 0, cells := 0, slots := 0, locals := 0 } : Room)) (fun aR U => aR = #[(.ref a)] ∧ Z.Warmed39 U.vm ∧ U.heap = h0) (fun _ _ _ _ _ => True) (fun _ U o U' => ∃ v L, o = .returned v ∧ Q3 Z a a1_ a2_ a3_ a4_ a5_ a6_ a7_ a8_ a9_ a10_ a11_ va vb vp h0 n0 v U'.heap L ∧ FrameEnd U o U' L ({ frames := 0, cells := 0, slots := 0, locals := 0 } : Room).cells ({ frames := 0, cells := 0, slots := 0, locals := 0 } : Room).slots) := by
  refine MetFree.of_bodySF pf_6 hisR ?_
  intro p e s m args below meth c s₁ Bd hml0 hP hK
  obtain ⟨rfl, hZ, hhE⟩ := hP
  have hx := Bd.exec
  have hby := Bd.bytes
  have hml : c.maxLocals = 2 := hml0
  have hown : s.vm.findClass "com/example/equitide/equitide/policy/backfilling/AvlTree" = some m.cls := findClass_of_methodNamed Bd.named
  have hnm := (name_of_methodNamed Bd.named Bd.method).1
  have X0 : Stand p l e ({ frames := 0, cells := 0, slots := 0, locals := 0 } : Room) s m #[(.ref a)] below meth c s₁ [] 0 0 := Stand.of_body Bd
  have e0 : s₁.heap = h0 := by rw [← hhE, Bd.state]; rfl
  have N0 := Fr.nil n0
  show own_Go p e below (own_Post s (Q3 Z a a1_ a2_ a3_ a4_ a5_ a6_ a7_ a8_ a9_ a10_ a11_ va vb vp h0 n0) ({ frames := 0, cells := 0, slots := 0, locals := 0 } : Room).cells ({ frames := 0, cells := 0, slots := 0, locals := 0 } : Room).slots) (s₁.setTop (entryFrame m #[(.ref a)] 2))
  rw [ef_rm3]
  generalize hG : own_Post s (Q3 Z a a1_ a2_ a3_ a4_ a5_ a6_ a7_ a8_ a9_ a10_ a11_ va vb vp h0 n0) ({ frames := 0, cells := 0, slots := 0, locals := 0 } : Room).cells ({ frames := 0, cells := 0, slots := 0, locals := 0 } : Room).slots = G
  obtain ⟨o1, o2, o3, o4, o5, o6, o7, o8, o9, o10, o11⟩ := id hord
  obtain ⟨E0, F0_0, F1_0, F2_0, F3_0, F4_0, F5_0, F6_0, F7_0, F8_0, F9_0, F10_0, F11_0, F12_0, F13_0, V0_0, V1_0, V2_0, V3_0, V4_0, V5_0, V6_0, V7_0, V8_0, V9_0, V10_0⟩ := B
  refine own_aloadN X0 hx (hb hby d6_0) rfl rfl 1 rfl ?_
  refine own_getF X0 hx hZ hown (own_w hw 23 rfl) Via.refl e0 F6_0 (hb hby d6_1) 4 rfl (fun T757 X757 e757 => ?_)
  refine own_aloadN X757 hx (hb hby d6_4) rfl rfl 5 rfl ?_
  refine own_dup X757 hx (hb hby d6_5) rfl 6 rfl ?_
  refine own_getF X757 hx hZ hown (own_w hw 25 rfl) Via.refl e757 F1_0 (hb hby d6_6) 9 rfl (fun T758 X758 e758 => ?_)
  refine own_iconst X758 hx (hb hby d6_9) (1 : Int32) rfl 10 rfl ?_
  refine own_isub X758 hx (hb hby d6_10) 11 rfl ?_
  show own_Go p e below G (T758.setTop (mkF m 11 #[.val (.ref a), .unset] [(.int (1 : Int32)), (.ref a), (.ref a4_)]))
  refine own_dupX1 X758 hx (hb hby d6_11) rfl rfl 12 rfl ?_
  refine own_putF X758 hx hZ hown (own_w hw 25 rfl) Via.refl e758 F1_0 E0 (Or.inl (own_w hw 26 rfl)) (own_w hw 1 rfl) (ty := .int) (v' := (.int (1 : Int32))) (by decide) rfl rfl (hb hby d6_12) 15 rfl (fun T759 h759 X759 e759 W759 => ?_)
  have N760 := Fr.snoc X759 N0 ga
  have Z761 : n0 ≤ h759.size := by rw [W759.size]; exact Z0
  have E762 := E0.wr W759
  have F763 := F0_0.other W759 (Or.inr (sn_65 hw))
  have F764 := F1_0.same W759
  have F765 := F2_0.other W759 (Or.inr (sn_66 hw))
  have F766 := F3_0.other W759 (Or.inr (sn_67 hw))
  have F767 := F4_0.other W759 (Or.inr (sn_68 hw))
  have F768 := F5_0.other W759 (Or.inr (sn_69 hw))
  have F769 := F6_0.other W759 (Or.inr (sn_70 hw))
  have F770 := F7_0.other W759 (Or.inr (sn_71 hw))
  have F771 := F8_0.other W759 (Or.inr (sn_72 hw))
  have F772 := F9_0.other W759 (Or.inr (sn_73 hw))
  have F773 := F10_0.other W759 (Or.inr (sn_74 hw))
  have F774 := F11_0.other W759 (Or.inr (sn_75 hw))
  have F775 := F12_0.other W759 (Or.inr (sn_76 hw))
  have F776 := F13_0.other W759 (Or.inr (sn_77 hw))
  have V777 := V0_0.other W759 (Ne.symm (Nat.ne_of_lt (by omega)))
  have V778 := V1_0.other W759 (Ne.symm (Nat.ne_of_lt (by omega)))
  have V779 := V2_0.other W759 (Ne.symm (Nat.ne_of_lt (by omega)))
  have V780 := V3_0.other W759 (Ne.symm (Nat.ne_of_lt (by omega)))
  have V781 := V4_0.other W759 (Ne.symm (Nat.ne_of_lt (by omega)))
  have V782 := V5_0.other W759 (Ne.symm (Nat.ne_of_lt (by omega)))
  have V783 := V6_0.other W759 (Ne.symm (Nat.ne_of_lt (by omega)))
  have V784 := V7_0.other W759 (Ne.symm (Nat.ne_of_lt (by omega)))
  have V785 := V8_0.other W759 (Ne.symm (Nat.ne_of_lt (by omega)))
  have V786 := V9_0.other W759 (Ne.symm (Nat.ne_of_lt (by omega)))
  have V787 := V10_0.other W759 (Ne.symm (Nat.ne_of_lt (by omega)))
  refine own_iaload X759 hx hZ e759 V780 1 rfl (0 : Int32) rfl (hb hby d6_15) 16 rfl ?_
  refine own_istoreN X759 hx (hb hby d6_16) #[.val (.ref a), .val (.int (0 : Int32))] rfl 17 rfl ?_
  refine own_aloadN X759 hx (hb hby d6_17) rfl rfl 18 rfl ?_
  refine own_getF X759 hx hZ hown (own_w hw 27 rfl) Via.refl e759 F770 (hb hby d6_18) 21 rfl (fun T788 X788 e788 => ?_)
  refine own_iloadN X788 hx (hb hby d6_21) rfl 22 rfl ?_
  refine own_iconst X788 hx (hb hby d6_22) (-1 : Int32) rfl 23 rfl ?_
  refine own_iastore X788 hx hZ e788 V781 0 rfl (by simp) (hb hby d6_23) 24 rfl (fun T789 h789 X789 e789 W789 V789 => ?_)
  rw [show [(0 : Int32), (0 : Int32)].set 0 (-1 : Int32) = [(-1 : Int32), (0 : Int32)] from rfl] at V789
  have N790 := Fr.snoc X789 N760 (by omega)
  have Z791 : n0 ≤ h789.size := by rw [W789.size]; exact Z761
  have E792 := E762.wr W789
  have F793 := F763.other W789 (Or.inl (Nat.ne_of_lt (by omega)))
  have F794 := F764.other W789 (Or.inl (Nat.ne_of_lt (by omega)))
  have F795 := F765.other W789 (Or.inl (Nat.ne_of_lt (by omega)))
  have F796 := F766.other W789 (Or.inl (Nat.ne_of_lt (by omega)))
  have F797 := F767.other W789 (Or.inl (Nat.ne_of_lt (by omega)))
  have F798 := F768.other W789 (Or.inl (Nat.ne_of_lt (by omega)))
  have F799 := F769.other W789 (Or.inl (Nat.ne_of_lt (by omega)))
  have F800 := F770.other W789 (Or.inl (Nat.ne_of_lt (by omega)))
  have F801 := F771.other W789 (Or.inl (Nat.ne_of_lt (by omega)))
  have F802 := F772.other W789 (Or.inl (Nat.ne_of_lt (by omega)))
  have F803 := F773.other W789 (Or.inl (Nat.ne_of_lt (by omega)))
  have F804 := F774.other W789 (Or.inl (Nat.ne_of_lt (by omega)))
  have F805 := F775.other W789 (Or.inl (Nat.ne_of_lt (by omega)))
  have F806 := F776.other W789 (Or.inl (Nat.ne_of_lt (by omega)))
  have V807 := V777.other W789 (Nat.ne_of_lt (by omega))
  have V808 := V778.other W789 (Nat.ne_of_lt (by omega))
  have V809 := V779.other W789 (Nat.ne_of_lt (by omega))
  have V810 := V780.other W789 (Nat.ne_of_lt (by omega))
  have V811 := V782.other W789 (Ne.symm (Nat.ne_of_lt (by omega)))
  have V812 := V783.other W789 (Ne.symm (Nat.ne_of_lt (by omega)))
  have V813 := V784.other W789 (Ne.symm (Nat.ne_of_lt (by omega)))
  have V814 := V785.other W789 (Ne.symm (Nat.ne_of_lt (by omega)))
  have V815 := V786.other W789 (Ne.symm (Nat.ne_of_lt (by omega)))
  have V816 := V787.other W789 (Ne.symm (Nat.ne_of_lt (by omega)))
  refine own_aloadN X789 hx (hb hby d6_24) rfl rfl 25 rfl ?_
  refine own_getF X789 hx hZ hown (own_w hw 29 rfl) Via.refl e789 F801 (hb hby d6_25) 28 rfl (fun T817 X817 e817 => ?_)
  refine own_iloadN X817 hx (hb hby d6_28) rfl 29 rfl ?_
  refine own_iconst X817 hx (hb hby d6_29) (-1 : Int32) rfl 30 rfl ?_
  refine own_iastore X817 hx hZ e817 V811 0 rfl (by simp) (hb hby d6_30) 31 rfl (fun T818 h818 X818 e818 W818 V818 => ?_)
  rw [show [(0 : Int32), (0 : Int32)].set 0 (-1 : Int32) = [(-1 : Int32), (0 : Int32)] from rfl] at V818
  have N819 := Fr.snoc X818 N790 (by omega)
  have Z820 : n0 ≤ h818.size := by rw [W818.size]; exact Z791
  have E821 := E792.wr W818
  have F822 := F793.other W818 (Or.inl (Nat.ne_of_lt (by omega)))
  have F823 := F794.other W818 (Or.inl (Nat.ne_of_lt (by omega)))
  have F824 := F795.other W818 (Or.inl (Nat.ne_of_lt (by omega)))
  have F825 := F796.other W818 (Or.inl (Nat.ne_of_lt (by omega)))
  have F826 := F797.other W818 (Or.inl (Nat.ne_of_lt (by omega)))
  have F827 := F798.other W818 (Or.inl (Nat.ne_of_lt (by omega)))
  have F828 := F799.other W818 (Or.inl (Nat.ne_of_lt (by omega)))
  have F829 := F800.other W818 (Or.inl (Nat.ne_of_lt (by omega)))
  have F830 := F801.other W818 (Or.inl (Nat.ne_of_lt (by omega)))
  have F831 := F802.other W818 (Or.inl (Nat.ne_of_lt (by omega)))
  have F832 := F803.other W818 (Or.inl (Nat.ne_of_lt (by omega)))
  have F833 := F804.other W818 (Or.inl (Nat.ne_of_lt (by omega)))
  have F834 := F805.other W818 (Or.inl (Nat.ne_of_lt (by omega)))
  have F835 := F806.other W818 (Or.inl (Nat.ne_of_lt (by omega)))
  have V836 := V807.other W818 (Nat.ne_of_lt (by omega))
  have V837 := V808.other W818 (Nat.ne_of_lt (by omega))
  have V838 := V809.other W818 (Nat.ne_of_lt (by omega))
  have V839 := V810.other W818 (Nat.ne_of_lt (by omega))
  have V840 := V812.other W818 (Ne.symm (Nat.ne_of_lt (by omega)))
  have V841 := V813.other W818 (Ne.symm (Nat.ne_of_lt (by omega)))
  have V842 := V814.other W818 (Ne.symm (Nat.ne_of_lt (by omega)))
  have V843 := V815.other W818 (Ne.symm (Nat.ne_of_lt (by omega)))
  have V844 := V816.other W818 (Ne.symm (Nat.ne_of_lt (by omega)))
  have V845 := V789.other W818 (Nat.ne_of_lt (by omega))
  refine own_iloadN X818 hx (hb hby d6_31) rfl 32 rfl ?_
  refine own_ireturn X818 hx Bd.notSynchronized hG Bd.returns (hb hby d6_32) (by decide) (by decide) ?_
  rw [e818]
  exact ⟨rfl, N819, Z820, ⟨E821, F822, F823, F824, F825, F826, F827, F828, F829, F830, F831, F832, F833, F834, F835, V836, V837, V838, V839, V845, V818, V840, V841, V842, V843, V844⟩⟩
def Q2 (Z : State) (a a1_ a2_ a3_ a4_ a5_ a6_ a7_ a8_ a9_ a10_ a11_ : Addr) (va vb vp : Int64) (h0 : Heap) (n0 : Nat) (v : Option Value) (h : Heap) (L : List Loc) : Prop := v = some (.int (0 : Int32)) ∧ Fr n0 L ∧ n0 ≤ h.size ∧ own_PE Z h a a1_ a2_ a3_ a4_ a5_ a6_ a7_ a8_ a9_ a10_ a11_ (-1 : Int32) (1 : Int32) (0 : Int32) (List.replicate 127 (0 : Int32)) (List.replicate 127 (0 : Int32)) [(0 : Int32), (0 : Int32)] [(1 : Int32), (0 : Int32)] [(-1 : Int32), (0 : Int32)] [(-1 : Int32), (0 : Int32)] [(0 : Int32), (0 : Int32)] [(0 : Int64), (0 : Int64)] [(0 : Int64), (0 : Int64)] [(0 : Int64), (0 : Int64)]
theorem ef_rm2 (m : MethodId) (x0 : Addr) (x1 : Int32) : entryFrame m #[(.ref x0), (.int x1)] 3 = mkF m 0 #[.val (.ref x0), .val (.int x1), .unset] [] := by first | (simp [entryFrame, mkF, argsToLocals, Value.category, maxLocals]; done) | rfl
set_option maxRecDepth 65536 in
set_option maxHeartbeats 40000000 in
theorem rm2 (l : Launch) (Z : State) (a0 : Array Value) (hw : ∀ d ∈ tables_1, d.before a0 Z = true) (ws : List Jvm.Cond) (a a1_ a2_ a3_ a4_ a5_ a6_ a7_ a8_ a9_ a10_ a11_ : Addr) (va vb vp : Int64) (h0 : Heap) (n0 : Nat) (Z0 : n0 ≤ h0.size) (ga : n0 ≤ a) (hord : own_Or a a1_ a2_ a3_ a4_ a5_ a6_ a7_ a8_ a9_ a10_ a11_) (B : own_PE Z h0 a a1_ a2_ a3_ a4_ a5_ a6_ a7_ a8_ a9_ a10_ a11_ (-1 : Int32) (2 : Int32) (0 : Int32) (List.replicate 127 (0 : Int32)) (List.replicate 127 (0 : Int32)) [(0 : Int32), (0 : Int32)] [(1 : Int32), (0 : Int32)] [(0 : Int32), (0 : Int32)] [(0 : Int32), (0 : Int32)] [(0 : Int32), (0 : Int32)] [(0 : Int64), (0 : Int64)] [(0 : Int64), (0 : Int64)] [(0 : Int64), (0 : Int64)]) :
    MetFree l own_y5 (head1 (Jvm.Cond.code own_y5 prog_49_method_10_code 3 (some .int) :: ws) ({ frames := 1, cells := 0, slots := 0, locals := 13 } : Room)) (fun aR U => aR = #[(.ref a), (.int (0 : Int32))] ∧ Z.Warmed39 U.vm ∧ U.heap = h0) (fun _ _ _ _ _ => True) (fun _ U o U' => ∃ v L, o = .returned v ∧ Q2 Z a a1_ a2_ a3_ a4_ a5_ a6_ a7_ a8_ a9_ a10_ a11_ va vb vp h0 n0 v U'.heap L ∧ FrameEnd U o U' L ({ frames := 1, cells := 0, slots := 0, locals := 13 } : Room).cells ({ frames := 1, cells := 0, slots := 0, locals := 13 } : Room).slots) := by
  refine MetFree.of_bodySF pf_5 hisR ?_
  intro p e s m args below meth c s₁ Bd hml0 hP hK
  obtain ⟨rfl, hZ, hhE⟩ := hP
  have hx := Bd.exec
  have hby := Bd.bytes
  have hml : c.maxLocals = 3 := hml0
  have hown : s.vm.findClass "com/example/equitide/equitide/policy/backfilling/AvlTree" = some m.cls := findClass_of_methodNamed Bd.named
  have hnm := (name_of_methodNamed Bd.named Bd.method).1
  have X0 : Stand p l e ({ frames := 1, cells := 0, slots := 0, locals := 13 } : Room) s m #[(.ref a), (.int (0 : Int32))] below meth c s₁ [] 0 0 := Stand.of_body Bd
  have e0 : s₁.heap = h0 := by rw [← hhE, Bd.state]; rfl
  have N0 := Fr.nil n0
  show own_Go p e below (own_Post s (Q2 Z a a1_ a2_ a3_ a4_ a5_ a6_ a7_ a8_ a9_ a10_ a11_ va vb vp h0 n0) ({ frames := 1, cells := 0, slots := 0, locals := 13 } : Room).cells ({ frames := 1, cells := 0, slots := 0, locals := 13 } : Room).slots) (s₁.setTop (entryFrame m #[(.ref a), (.int (0 : Int32))] 3))
  rw [ef_rm2]
  generalize hG : own_Post s (Q2 Z a a1_ a2_ a3_ a4_ a5_ a6_ a7_ a8_ a9_ a10_ a11_ va vb vp h0 n0) ({ frames := 1, cells := 0, slots := 0, locals := 13 } : Room).cells ({ frames := 1, cells := 0, slots := 0, locals := 13 } : Room).slots = G
  obtain ⟨o1, o2, o3, o4, o5, o6, o7, o8, o9, o10, o11⟩ := id hord
  obtain ⟨E0, F0_0, F1_0, F2_0, F3_0, F4_0, F5_0, F6_0, F7_0, F8_0, F9_0, F10_0, F11_0, F12_0, F13_0, V0_0, V1_0, V2_0, V3_0, V4_0, V5_0, V6_0, V7_0, V8_0, V9_0, V10_0⟩ := B
  refine own_aloadN X0 hx (hb hby d5_0) rfl rfl 1 rfl ?_
  refine own_callV X0 hx hZ hown (own_w hw 57 rfl) (own_w hw 58 rfl) (own_w hw 60 rfl) (notFace_of_selects (args := #[]) (mvT hZ (own_w hw 60 rfl))) (own_w hw 59 rfl) (own_w hw 9 rfl) (own_w hw 61 rfl) (by decide) e0 E0 (rm3 l Z a0 hw [] a a1_ a2_ a3_ a4_ a5_ a6_ a7_ a8_ a9_ a10_ a11_ va vb vp h0 n0 Z0 ga hord ⟨E0, F0_0, F1_0, F2_0, F3_0, F4_0, F5_0, F6_0, F7_0, F8_0, F9_0, F10_0, F11_0, F12_0, F13_0, V0_0, V1_0, V2_0, V3_0, V4_0, V5_0, V6_0, V7_0, V8_0, V9_0, V10_0⟩ ) (by rw [hml]; rfl) pd_1 (argsL := []) rfl (rest := []) rfl (hb hby d5_1) 0 (Nat.le_of_eq rfl) (by decide) (by decide) (by decide) (by decide) 4 rfl (fun T846 L846 v846 X846 hQ846 => ?_)
  obtain ⟨rfl, N846, Z846, B846⟩ := hQ846
  have N847 := Fr.app N0 N846
  obtain ⟨E846, F0_846, F1_846, F2_846, F3_846, F4_846, F5_846, F6_846, F7_846, F8_846, F9_846, F10_846, F11_846, F12_846, F13_846, V0_846, V1_846, V2_846, V3_846, V4_846, V5_846, V6_846, V7_846, V8_846, V9_846, V10_846⟩ := B846
  show own_Go p e below G (T846.setTop (mkF m 4 #[.val (.ref a), .val (.int (0 : Int32)), .unset] [(.int (0 : Int32))]))
  refine own_istoreN X846 hx (hb hby d5_4) #[.val (.ref a), .val (.int (0 : Int32)), .val (.int (0 : Int32))] rfl 5 rfl ?_
  refine own_aloadN X846 hx (hb hby d5_5) rfl rfl 6 rfl ?_
  refine own_getF X846 hx hZ hown (own_w hw 21 rfl) Via.refl (rfl : T846.heap = T846.heap) F5_846 (hb hby d5_6) 9 rfl (fun T848 X848 e848 => ?_)
  refine own_iloadN X848 hx (hb hby d5_9) rfl 10 rfl ?_
  refine own_iloadN X848 hx (hb hby d5_10) rfl 11 rfl ?_
  refine own_iastore X848 hx hZ e848 V2_846 0 rfl (by simp) (hb hby d5_11) 12 rfl (fun T849 h849 X849 e849 W849 V849 => ?_)
  rw [show [(0 : Int32), (0 : Int32)].set 0 (0 : Int32) = [(0 : Int32), (0 : Int32)] from rfl] at V849
  have N850 := Fr.snoc X849 N847 (by omega)
  have Z851 : n0 ≤ h849.size := by rw [W849.size]; exact Z846
  have E852 := E846.wr W849
  have F853 := F0_846.other W849 (Or.inl (Nat.ne_of_lt (by omega)))
  have F854 := F1_846.other W849 (Or.inl (Nat.ne_of_lt (by omega)))
  have F855 := F2_846.other W849 (Or.inl (Nat.ne_of_lt (by omega)))
  have F856 := F3_846.other W849 (Or.inl (Nat.ne_of_lt (by omega)))
  have F857 := F4_846.other W849 (Or.inl (Nat.ne_of_lt (by omega)))
  have F858 := F5_846.other W849 (Or.inl (Nat.ne_of_lt (by omega)))
  have F859 := F6_846.other W849 (Or.inl (Nat.ne_of_lt (by omega)))
  have F860 := F7_846.other W849 (Or.inl (Nat.ne_of_lt (by omega)))
  have F861 := F8_846.other W849 (Or.inl (Nat.ne_of_lt (by omega)))
  have F862 := F9_846.other W849 (Or.inl (Nat.ne_of_lt (by omega)))
  have F863 := F10_846.other W849 (Or.inl (Nat.ne_of_lt (by omega)))
  have F864 := F11_846.other W849 (Or.inl (Nat.ne_of_lt (by omega)))
  have F865 := F12_846.other W849 (Or.inl (Nat.ne_of_lt (by omega)))
  have F866 := F13_846.other W849 (Or.inl (Nat.ne_of_lt (by omega)))
  have V867 := V0_846.other W849 (Nat.ne_of_lt (by omega))
  have V868 := V1_846.other W849 (Nat.ne_of_lt (by omega))
  have V869 := V3_846.other W849 (Ne.symm (Nat.ne_of_lt (by omega)))
  have V870 := V4_846.other W849 (Ne.symm (Nat.ne_of_lt (by omega)))
  have V871 := V5_846.other W849 (Ne.symm (Nat.ne_of_lt (by omega)))
  have V872 := V6_846.other W849 (Ne.symm (Nat.ne_of_lt (by omega)))
  have V873 := V7_846.other W849 (Ne.symm (Nat.ne_of_lt (by omega)))
  have V874 := V8_846.other W849 (Ne.symm (Nat.ne_of_lt (by omega)))
  have V875 := V9_846.other W849 (Ne.symm (Nat.ne_of_lt (by omega)))
  have V876 := V10_846.other W849 (Ne.symm (Nat.ne_of_lt (by omega)))
  refine own_iloadN X849 hx (hb hby d5_12) rfl 13 rfl ?_
  refine own_ireturn X849 hx Bd.notSynchronized hG Bd.returns (hb hby d5_13) (by decide) (by decide) ?_
  rw [e849]
  exact ⟨rfl, N850, Z851, ⟨E852, F853, F854, F855, F856, F857, F858, F859, F860, F861, F862, F863, F864, F865, F866, V867, V868, V849, V869, V870, V871, V872, V873, V874, V875, V876⟩⟩
def Q6 (Z : State) (a a1_ a2_ a3_ a4_ a5_ a6_ a7_ a8_ a9_ a10_ a11_ : Addr) (va vb vp : Int64) (h0 : Heap) (n0 : Nat) (v : Option Value) (h : Heap) (L : List Loc) : Prop := v = some (.int (0 : Int32)) ∧ Fr n0 L ∧ h = h0
theorem ef_rm6 (m : MethodId) (x0 : Addr) (x1 : Int32) : entryFrame m #[(.ref x0), (.int x1)] 2 = mkF m 0 #[.val (.ref x0), .val (.int x1)] [] := by first | (simp [entryFrame, mkF, argsToLocals, Value.category, maxLocals]; done) | rfl
set_option maxRecDepth 65536 in
set_option maxHeartbeats 40000000 in
theorem rm6 (l : Launch) (Z : State) (a0 : Array Value) (hw : ∀ d ∈ tables_1, d.before a0 Z = true) (ws : List Jvm.Cond) (a a1_ a2_ a3_ a4_ a5_ a6_ a7_ a8_ a9_ a10_ a11_ : Addr) (va vb vp : Int64) (h0 : Heap) (n0 : Nat) (Z0 : n0 ≤ h0.size) (ga : n0 ≤ a) (hord : own_Or a a1_ a2_ a3_ a4_ a5_ a6_ a7_ a8_ a9_ a10_ a11_) (B : own_PE Z h0 a a1_ a2_ a3_ a4_ a5_ a6_ a7_ a8_ a9_ a10_ a11_ (-1 : Int32) (1 : Int32) (1 : Int32) (List.replicate 127 (0 : Int32)) (List.replicate 127 (0 : Int32)) [(0 : Int32), (0 : Int32)] [(1 : Int32), (0 : Int32)] [(-1 : Int32), (0 : Int32)] [(-1 : Int32), (0 : Int32)] [(0 : Int32), (0 : Int32)] [va, (0 : Int64)] [vp, (0 : Int64)] [(0 : Int64), (0 : Int64)]) :
    MetFree l own_y9 (head1 (Jvm.Cond.code own_y9 prog_49_method_28_code 2 (some .int) :: ws) ({ frames := 0, cells := 0, slots := 0, locals := 0 } : Room)) (fun aR U => aR = #[(.ref a), (.int (-1 : Int32))] ∧ Z.Warmed39 U.vm ∧ U.heap = h0) (fun _ _ _ _ _ => True) (fun _ U o U' => ∃ v L, o = .returned v ∧ Q6 Z a a1_ a2_ a3_ a4_ a5_ a6_ a7_ a8_ a9_ a10_ a11_ va vb vp h0 n0 v U'.heap L ∧ FrameEnd U o U' L ({ frames := 0, cells := 0, slots := 0, locals := 0 } : Room).cells ({ frames := 0, cells := 0, slots := 0, locals := 0 } : Room).slots) := by
  refine MetFree.of_bodySF pf_9 hisR ?_
  intro p e s m args below meth c s₁ Bd hml0 hP hK
  obtain ⟨rfl, hZ, hhE⟩ := hP
  have hx := Bd.exec
  have hby := Bd.bytes
  have hml : c.maxLocals = 2 := hml0
  have hown : s.vm.findClass "com/example/equitide/equitide/policy/backfilling/AvlTree" = some m.cls := findClass_of_methodNamed Bd.named
  have hnm := (name_of_methodNamed Bd.named Bd.method).1
  have X0 : Stand p l e ({ frames := 0, cells := 0, slots := 0, locals := 0 } : Room) s m #[(.ref a), (.int (-1 : Int32))] below meth c s₁ [] 0 0 := Stand.of_body Bd
  have e0 : s₁.heap = h0 := by rw [← hhE, Bd.state]; rfl
  have N0 := Fr.nil n0
  show own_Go p e below (own_Post s (Q6 Z a a1_ a2_ a3_ a4_ a5_ a6_ a7_ a8_ a9_ a10_ a11_ va vb vp h0 n0) ({ frames := 0, cells := 0, slots := 0, locals := 0 } : Room).cells ({ frames := 0, cells := 0, slots := 0, locals := 0 } : Room).slots) (s₁.setTop (entryFrame m #[(.ref a), (.int (-1 : Int32))] 2))
  rw [ef_rm6]
  generalize hG : own_Post s (Q6 Z a a1_ a2_ a3_ a4_ a5_ a6_ a7_ a8_ a9_ a10_ a11_ va vb vp h0 n0) ({ frames := 0, cells := 0, slots := 0, locals := 0 } : Room).cells ({ frames := 0, cells := 0, slots := 0, locals := 0 } : Room).slots = G
  obtain ⟨o1, o2, o3, o4, o5, o6, o7, o8, o9, o10, o11⟩ := id hord
  obtain ⟨E0, F0_0, F1_0, F2_0, F3_0, F4_0, F5_0, F6_0, F7_0, F8_0, F9_0, F10_0, F11_0, F12_0, F13_0, V0_0, V1_0, V2_0, V3_0, V4_0, V5_0, V6_0, V7_0, V8_0, V9_0, V10_0⟩ := B
  refine own_iloadN X0 hx (hb hby d9_0) rfl 1 rfl ?_
  refine own_iconst X0 hx (hb hby d9_1) (-1 : Int32) rfl 2 rfl ?_
  refine own_icmpN X0 hx (hb hby d9_2) (teq (by decide)).2 5 rfl ?_
  refine own_iconst X0 hx (hb hby d9_5) (0 : Int32) rfl 6 rfl ?_
  refine own_goto X0 hx (hb hby d9_6) 15 ⟨by decide, by decide⟩ ?_
  refine own_ireturn X0 hx Bd.notSynchronized hG Bd.returns (hb hby d9_15) (by decide) (by decide) ?_
  rw [e0]
  exact ⟨rfl, N0, rfl⟩
def Q8 (Z : State) (a a1_ a2_ a3_ a4_ a5_ a6_ a7_ a8_ a9_ a10_ a11_ : Addr) (va vb vp : Int64) (h0 : Heap) (n0 : Nat) (v : Option Value) (h : Heap) (L : List Loc) : Prop := v = some (.int (-1 : Int32)) ∧ Fr n0 L ∧ h = h0
theorem ef_rm8 (m : MethodId) (x0 : Addr) (x1 : Int32) : entryFrame m #[(.ref x0), (.int x1)] 2 = mkF m 0 #[.val (.ref x0), .val (.int x1)] [] := by first | (simp [entryFrame, mkF, argsToLocals, Value.category, maxLocals]; done) | rfl
set_option maxRecDepth 65536 in
set_option maxHeartbeats 40000000 in
theorem rm8 (l : Launch) (Z : State) (a0 : Array Value) (hw : ∀ d ∈ tables_1, d.before a0 Z = true) (ws : List Jvm.Cond) (a a1_ a2_ a3_ a4_ a5_ a6_ a7_ a8_ a9_ a10_ a11_ : Addr) (va vb vp : Int64) (h0 : Heap) (n0 : Nat) (Z0 : n0 ≤ h0.size) (ga : n0 ≤ a) (hord : own_Or a a1_ a2_ a3_ a4_ a5_ a6_ a7_ a8_ a9_ a10_ a11_) (B : own_PE Z h0 a a1_ a2_ a3_ a4_ a5_ a6_ a7_ a8_ a9_ a10_ a11_ (-1 : Int32) (1 : Int32) (1 : Int32) (List.replicate 127 (0 : Int32)) (List.replicate 127 (0 : Int32)) [(0 : Int32), (0 : Int32)] [(1 : Int32), (0 : Int32)] [(-1 : Int32), (0 : Int32)] [(-1 : Int32), (0 : Int32)] [(1 : Int32), (0 : Int32)] [va, (0 : Int64)] [vp, (0 : Int64)] [(0 : Int64), (0 : Int64)]) :
    MetFree l own_y12 (head1 (Jvm.Cond.code own_y12 prog_49_method_7_code 2 (some .int) :: ws) ({ frames := 0, cells := 0, slots := 0, locals := 0 } : Room)) (fun aR U => aR = #[(.ref a), (.int (0 : Int32))] ∧ Z.Warmed39 U.vm ∧ U.heap = h0) (fun _ _ _ _ _ => True) (fun _ U o U' => ∃ v L, o = .returned v ∧ Q8 Z a a1_ a2_ a3_ a4_ a5_ a6_ a7_ a8_ a9_ a10_ a11_ va vb vp h0 n0 v U'.heap L ∧ FrameEnd U o U' L ({ frames := 0, cells := 0, slots := 0, locals := 0 } : Room).cells ({ frames := 0, cells := 0, slots := 0, locals := 0 } : Room).slots) := by
  refine MetFree.of_bodySF pf_12 hisR ?_
  intro p e s m args below meth c s₁ Bd hml0 hP hK
  obtain ⟨rfl, hZ, hhE⟩ := hP
  have hx := Bd.exec
  have hby := Bd.bytes
  have hml : c.maxLocals = 2 := hml0
  have hown : s.vm.findClass "com/example/equitide/equitide/policy/backfilling/AvlTree" = some m.cls := findClass_of_methodNamed Bd.named
  have hnm := (name_of_methodNamed Bd.named Bd.method).1
  have X0 : Stand p l e ({ frames := 0, cells := 0, slots := 0, locals := 0 } : Room) s m #[(.ref a), (.int (0 : Int32))] below meth c s₁ [] 0 0 := Stand.of_body Bd
  have e0 : s₁.heap = h0 := by rw [← hhE, Bd.state]; rfl
  have N0 := Fr.nil n0
  show own_Go p e below (own_Post s (Q8 Z a a1_ a2_ a3_ a4_ a5_ a6_ a7_ a8_ a9_ a10_ a11_ va vb vp h0 n0) ({ frames := 0, cells := 0, slots := 0, locals := 0 } : Room).cells ({ frames := 0, cells := 0, slots := 0, locals := 0 } : Room).slots) (s₁.setTop (entryFrame m #[(.ref a), (.int (0 : Int32))] 2))
  rw [ef_rm8]
  generalize hG : own_Post s (Q8 Z a a1_ a2_ a3_ a4_ a5_ a6_ a7_ a8_ a9_ a10_ a11_ va vb vp h0 n0) ({ frames := 0, cells := 0, slots := 0, locals := 0 } : Room).cells ({ frames := 0, cells := 0, slots := 0, locals := 0 } : Room).slots = G
  obtain ⟨o1, o2, o3, o4, o5, o6, o7, o8, o9, o10, o11⟩ := id hord
  obtain ⟨E0, F0_0, F1_0, F2_0, F3_0, F4_0, F5_0, F6_0, F7_0, F8_0, F9_0, F10_0, F11_0, F12_0, F13_0, V0_0, V1_0, V2_0, V3_0, V4_0, V5_0, V6_0, V7_0, V8_0, V9_0, V10_0⟩ := B
  refine own_aloadN X0 hx (hb hby d12_0) rfl rfl 1 rfl ?_
  refine own_getF X0 hx hZ hown (own_w hw 27 rfl) Via.refl e0 F7_0 (hb hby d12_1) 4 rfl (fun T1005 X1005 e1005 => ?_)
  refine own_iloadN X1005 hx (hb hby d12_4) rfl 5 rfl ?_
  refine own_iaload X1005 hx hZ e1005 V4_0 0 rfl (-1 : Int32) rfl (hb hby d12_5) 6 rfl ?_
  refine own_ireturn X1005 hx Bd.notSynchronized hG Bd.returns (hb hby d12_6) (by decide) (by decide) ?_
  rw [e1005]
  exact ⟨rfl, N0, rfl⟩
def Q9 (Z : State) (a a1_ a2_ a3_ a4_ a5_ a6_ a7_ a8_ a9_ a10_ a11_ : Addr) (va vb vp : Int64) (h0 : Heap) (n0 : Nat) (v : Option Value) (h : Heap) (L : List Loc) : Prop := v = some (.long (0 : Int64)) ∧ Fr n0 L ∧ h = h0
theorem ef_rm9 (m : MethodId) (x0 : Addr) (x1 : Int32) : entryFrame m #[(.ref x0), (.int x1)] 2 = mkF m 0 #[.val (.ref x0), .val (.int x1)] [] := by first | (simp [entryFrame, mkF, argsToLocals, Value.category, maxLocals]; done) | rfl
set_option maxRecDepth 65536 in
set_option maxHeartbeats 40000000 in
theorem rm9 (l : Launch) (Z : State) (a0 : Array Value) (hw : ∀ d ∈ tables_1, d.before a0 Z = true) (ws : List Jvm.Cond) (a a1_ a2_ a3_ a4_ a5_ a6_ a7_ a8_ a9_ a10_ a11_ : Addr) (va vb vp : Int64) (h0 : Heap) (n0 : Nat) (Z0 : n0 ≤ h0.size) (ga : n0 ≤ a) (hord : own_Or a a1_ a2_ a3_ a4_ a5_ a6_ a7_ a8_ a9_ a10_ a11_) (B : own_PE Z h0 a a1_ a2_ a3_ a4_ a5_ a6_ a7_ a8_ a9_ a10_ a11_ (-1 : Int32) (1 : Int32) (1 : Int32) (List.replicate 127 (0 : Int32)) (List.replicate 127 (0 : Int32)) [(0 : Int32), (0 : Int32)] [(1 : Int32), (0 : Int32)] [(-1 : Int32), (0 : Int32)] [(-1 : Int32), (0 : Int32)] [(1 : Int32), (0 : Int32)] [va, (0 : Int64)] [vp, (0 : Int64)] [(0 : Int64), (0 : Int64)]) :
    MetFree l own_y13 (head1 (Jvm.Cond.code own_y13 prog_66_method_10_code 2 (some .long) :: ws) ({ frames := 0, cells := 0, slots := 0, locals := 0 } : Room)) (fun aR U => aR = #[(.ref a), (.int (-1 : Int32))] ∧ Z.Warmed39 U.vm ∧ U.heap = h0) (fun _ _ _ _ _ => True) (fun _ U o U' => ∃ v L, o = .returned v ∧ Q9 Z a a1_ a2_ a3_ a4_ a5_ a6_ a7_ a8_ a9_ a10_ a11_ va vb vp h0 n0 v U'.heap L ∧ FrameEnd U o U' L ({ frames := 0, cells := 0, slots := 0, locals := 0 } : Room).cells ({ frames := 0, cells := 0, slots := 0, locals := 0 } : Room).slots) := by
  refine MetFree.of_bodySF pf_13 hisR ?_
  intro p e s m args below meth c s₁ Bd hml0 hP hK
  obtain ⟨rfl, hZ, hhE⟩ := hP
  have hx := Bd.exec
  have hby := Bd.bytes
  have hml : c.maxLocals = 2 := hml0
  have hown : s.vm.findClass "com/example/equitide/equitide/policy/backfilling/PlannedEnds" = some m.cls := findClass_of_methodNamed Bd.named
  have hnm := (name_of_methodNamed Bd.named Bd.method).1
  have X0 : Stand p l e ({ frames := 0, cells := 0, slots := 0, locals := 0 } : Room) s m #[(.ref a), (.int (-1 : Int32))] below meth c s₁ [] 0 0 := Stand.of_body Bd
  have e0 : s₁.heap = h0 := by rw [← hhE, Bd.state]; rfl
  have N0 := Fr.nil n0
  show own_Go p e below (own_Post s (Q9 Z a a1_ a2_ a3_ a4_ a5_ a6_ a7_ a8_ a9_ a10_ a11_ va vb vp h0 n0) ({ frames := 0, cells := 0, slots := 0, locals := 0 } : Room).cells ({ frames := 0, cells := 0, slots := 0, locals := 0 } : Room).slots) (s₁.setTop (entryFrame m #[(.ref a), (.int (-1 : Int32))] 2))
  rw [ef_rm9]
  generalize hG : own_Post s (Q9 Z a a1_ a2_ a3_ a4_ a5_ a6_ a7_ a8_ a9_ a10_ a11_ va vb vp h0 n0) ({ frames := 0, cells := 0, slots := 0, locals := 0 } : Room).cells ({ frames := 0, cells := 0, slots := 0, locals := 0 } : Room).slots = G
  obtain ⟨o1, o2, o3, o4, o5, o6, o7, o8, o9, o10, o11⟩ := id hord
  obtain ⟨E0, F0_0, F1_0, F2_0, F3_0, F4_0, F5_0, F6_0, F7_0, F8_0, F9_0, F10_0, F11_0, F12_0, F13_0, V0_0, V1_0, V2_0, V3_0, V4_0, V5_0, V6_0, V7_0, V8_0, V9_0, V10_0⟩ := B
  refine own_iloadN X0 hx (hb hby d13_0) rfl 1 rfl ?_
  refine own_iconst X0 hx (hb hby d13_1) (-1 : Int32) rfl 2 rfl ?_
  refine own_icmpN X0 hx (hb hby d13_2) (teq (by decide)).2 5 rfl ?_
  refine own_lconst X0 hx (hb hby d13_5) (0 : Int64) rfl 6 rfl ?_
  refine own_goto X0 hx (hb hby d13_6) 15 ⟨by decide, by decide⟩ ?_
  refine own_lreturn X0 hx Bd.notSynchronized hG Bd.returns (hb hby d13_15) (by decide) (by decide) ?_
  rw [e0]
  exact ⟨rfl, N0, rfl⟩
def Q10 (Z : State) (a a1_ a2_ a3_ a4_ a5_ a6_ a7_ a8_ a9_ a10_ a11_ : Addr) (va vb vp : Int64) (h0 : Heap) (n0 : Nat) (v : Option Value) (h : Heap) (L : List Loc) : Prop := v = some (.int (-1 : Int32)) ∧ Fr n0 L ∧ h = h0
theorem ef_rm10 (m : MethodId) (x0 : Addr) (x1 : Int32) : entryFrame m #[(.ref x0), (.int x1)] 2 = mkF m 0 #[.val (.ref x0), .val (.int x1)] [] := by first | (simp [entryFrame, mkF, argsToLocals, Value.category, maxLocals]; done) | rfl
set_option maxRecDepth 65536 in
set_option maxHeartbeats 40000000 in
theorem rm10 (l : Launch) (Z : State) (a0 : Array Value) (hw : ∀ d ∈ tables_1, d.before a0 Z = true) (ws : List Jvm.Cond) (a a1_ a2_ a3_ a4_ a5_ a6_ a7_ a8_ a9_ a10_ a11_ : Addr) (va vb vp : Int64) (h0 : Heap) (n0 : Nat) (Z0 : n0 ≤ h0.size) (ga : n0 ≤ a) (hord : own_Or a a1_ a2_ a3_ a4_ a5_ a6_ a7_ a8_ a9_ a10_ a11_) (B : own_PE Z h0 a a1_ a2_ a3_ a4_ a5_ a6_ a7_ a8_ a9_ a10_ a11_ (-1 : Int32) (1 : Int32) (1 : Int32) (List.replicate 127 (0 : Int32)) (List.replicate 127 (0 : Int32)) [(0 : Int32), (0 : Int32)] [(1 : Int32), (0 : Int32)] [(-1 : Int32), (0 : Int32)] [(-1 : Int32), (0 : Int32)] [(1 : Int32), (0 : Int32)] [va, (0 : Int64)] [vp, (0 : Int64)] [(0 : Int64), (0 : Int64)]) :
    MetFree l own_y14 (head1 (Jvm.Cond.code own_y14 prog_49_method_8_code 2 (some .int) :: ws) ({ frames := 0, cells := 0, slots := 0, locals := 0 } : Room)) (fun aR U => aR = #[(.ref a), (.int (0 : Int32))] ∧ Z.Warmed39 U.vm ∧ U.heap = h0) (fun _ _ _ _ _ => True) (fun _ U o U' => ∃ v L, o = .returned v ∧ Q10 Z a a1_ a2_ a3_ a4_ a5_ a6_ a7_ a8_ a9_ a10_ a11_ va vb vp h0 n0 v U'.heap L ∧ FrameEnd U o U' L ({ frames := 0, cells := 0, slots := 0, locals := 0 } : Room).cells ({ frames := 0, cells := 0, slots := 0, locals := 0 } : Room).slots) := by
  refine MetFree.of_bodySF pf_14 hisR ?_
  intro p e s m args below meth c s₁ Bd hml0 hP hK
  obtain ⟨rfl, hZ, hhE⟩ := hP
  have hx := Bd.exec
  have hby := Bd.bytes
  have hml : c.maxLocals = 2 := hml0
  have hown : s.vm.findClass "com/example/equitide/equitide/policy/backfilling/AvlTree" = some m.cls := findClass_of_methodNamed Bd.named
  have hnm := (name_of_methodNamed Bd.named Bd.method).1
  have X0 : Stand p l e ({ frames := 0, cells := 0, slots := 0, locals := 0 } : Room) s m #[(.ref a), (.int (0 : Int32))] below meth c s₁ [] 0 0 := Stand.of_body Bd
  have e0 : s₁.heap = h0 := by rw [← hhE, Bd.state]; rfl
  have N0 := Fr.nil n0
  show own_Go p e below (own_Post s (Q10 Z a a1_ a2_ a3_ a4_ a5_ a6_ a7_ a8_ a9_ a10_ a11_ va vb vp h0 n0) ({ frames := 0, cells := 0, slots := 0, locals := 0 } : Room).cells ({ frames := 0, cells := 0, slots := 0, locals := 0 } : Room).slots) (s₁.setTop (entryFrame m #[(.ref a), (.int (0 : Int32))] 2))
  rw [ef_rm10]
  generalize hG : own_Post s (Q10 Z a a1_ a2_ a3_ a4_ a5_ a6_ a7_ a8_ a9_ a10_ a11_ va vb vp h0 n0) ({ frames := 0, cells := 0, slots := 0, locals := 0 } : Room).cells ({ frames := 0, cells := 0, slots := 0, locals := 0 } : Room).slots = G
  obtain ⟨o1, o2, o3, o4, o5, o6, o7, o8, o9, o10, o11⟩ := id hord
  obtain ⟨E0, F0_0, F1_0, F2_0, F3_0, F4_0, F5_0, F6_0, F7_0, F8_0, F9_0, F10_0, F11_0, F12_0, F13_0, V0_0, V1_0, V2_0, V3_0, V4_0, V5_0, V6_0, V7_0, V8_0, V9_0, V10_0⟩ := B
  refine own_aloadN X0 hx (hb hby d14_0) rfl rfl 1 rfl ?_
  refine own_getF X0 hx hZ hown (own_w hw 29 rfl) Via.refl e0 F8_0 (hb hby d14_1) 4 rfl (fun T1011 X1011 e1011 => ?_)
  refine own_iloadN X1011 hx (hb hby d14_4) rfl 5 rfl ?_
  refine own_iaload X1011 hx hZ e1011 V5_0 0 rfl (-1 : Int32) rfl (hb hby d14_5) 6 rfl ?_
  refine own_ireturn X1011 hx Bd.notSynchronized hG Bd.returns (hb hby d14_6) (by decide) (by decide) ?_
  rw [e1011]
  exact ⟨rfl, N0, rfl⟩
def Q7 (Z : State) (a a1_ a2_ a3_ a4_ a5_ a6_ a7_ a8_ a9_ a10_ a11_ : Addr) (va vb vp : Int64) (h0 : Heap) (n0 : Nat) (v : Option Value) (h : Heap) (L : List Loc) : Prop := v = none ∧ Fr n0 L ∧ n0 ≤ h.size ∧ own_PE Z h a a1_ a2_ a3_ a4_ a5_ a6_ a7_ a8_ a9_ a10_ a11_ (-1 : Int32) (1 : Int32) (1 : Int32) (List.replicate 127 (0 : Int32)) (List.replicate 127 (0 : Int32)) [(0 : Int32), (0 : Int32)] [(1 : Int32), (0 : Int32)] [(-1 : Int32), (0 : Int32)] [(-1 : Int32), (0 : Int32)] [(1 : Int32), (0 : Int32)] [va, (0 : Int64)] [vp, (0 : Int64)] [(((0 : Int64) + vp) + (0 : Int64)), (0 : Int64)]
theorem ef_rm7 (m : MethodId) (x0 : Addr) (x1 : Int32) : entryFrame m #[(.ref x0), (.int x1)] 2 = mkF m 0 #[.val (.ref x0), .val (.int x1)] [] := by first | (simp [entryFrame, mkF, argsToLocals, Value.category, maxLocals]; done) | rfl
set_option maxRecDepth 65536 in
set_option maxHeartbeats 40000000 in
theorem rm7 (l : Launch) (Z : State) (a0 : Array Value) (hw : ∀ d ∈ tables_1, d.before a0 Z = true) (ws : List Jvm.Cond) (a a1_ a2_ a3_ a4_ a5_ a6_ a7_ a8_ a9_ a10_ a11_ : Addr) (va vb vp : Int64) (h0 : Heap) (n0 : Nat) (Z0 : n0 ≤ h0.size) (ga : n0 ≤ a) (hord : own_Or a a1_ a2_ a3_ a4_ a5_ a6_ a7_ a8_ a9_ a10_ a11_) (B : own_PE Z h0 a a1_ a2_ a3_ a4_ a5_ a6_ a7_ a8_ a9_ a10_ a11_ (-1 : Int32) (1 : Int32) (1 : Int32) (List.replicate 127 (0 : Int32)) (List.replicate 127 (0 : Int32)) [(0 : Int32), (0 : Int32)] [(1 : Int32), (0 : Int32)] [(-1 : Int32), (0 : Int32)] [(-1 : Int32), (0 : Int32)] [(1 : Int32), (0 : Int32)] [va, (0 : Int64)] [vp, (0 : Int64)] [(0 : Int64), (0 : Int64)]) :
    MetFree l own_y11 (head1 (Jvm.Cond.code own_y11 prog_66_method_8_code 2 none :: ws) ({ frames := 1, cells := 0, slots := 0, locals := 18 } : Room)) (fun aR U => aR = #[(.ref a), (.int (0 : Int32))] ∧ Z.Warmed39 U.vm ∧ U.heap = h0) (fun _ _ _ _ _ => True) (fun _ U o U' => ∃ v L, o = .returned v ∧ Q7 Z a a1_ a2_ a3_ a4_ a5_ a6_ a7_ a8_ a9_ a10_ a11_ va vb vp h0 n0 v U'.heap L ∧ FrameEnd U o U' L ({ frames := 1, cells := 0, slots := 0, locals := 18 } : Room).cells ({ frames := 1, cells := 0, slots := 0, locals := 18 } : Room).slots) := by
  refine MetFree.of_bodySF pf_11 hisR ?_
  intro p e s m args below meth c s₁ Bd hml0 hP hK
  obtain ⟨rfl, hZ, hhE⟩ := hP
  have hx := Bd.exec
  have hby := Bd.bytes
  have hml : c.maxLocals = 2 := hml0
  have hown : s.vm.findClass "com/example/equitide/equitide/policy/backfilling/PlannedEnds" = some m.cls := findClass_of_methodNamed Bd.named
  have hnm := (name_of_methodNamed Bd.named Bd.method).1
  have X0 : Stand p l e ({ frames := 1, cells := 0, slots := 0, locals := 18 } : Room) s m #[(.ref a), (.int (0 : Int32))] below meth c s₁ [] 0 0 := Stand.of_body Bd
  have e0 : s₁.heap = h0 := by rw [← hhE, Bd.state]; rfl
  have N0 := Fr.nil n0
  show own_Go p e below (own_Post s (Q7 Z a a1_ a2_ a3_ a4_ a5_ a6_ a7_ a8_ a9_ a10_ a11_ va vb vp h0 n0) ({ frames := 1, cells := 0, slots := 0, locals := 18 } : Room).cells ({ frames := 1, cells := 0, slots := 0, locals := 18 } : Room).slots) (s₁.setTop (entryFrame m #[(.ref a), (.int (0 : Int32))] 2))
  rw [ef_rm7]
  generalize hG : own_Post s (Q7 Z a a1_ a2_ a3_ a4_ a5_ a6_ a7_ a8_ a9_ a10_ a11_ va vb vp h0 n0) ({ frames := 1, cells := 0, slots := 0, locals := 18 } : Room).cells ({ frames := 1, cells := 0, slots := 0, locals := 18 } : Room).slots = G
  obtain ⟨o1, o2, o3, o4, o5, o6, o7, o8, o9, o10, o11⟩ := id hord
  obtain ⟨E0, F0_0, F1_0, F2_0, F3_0, F4_0, F5_0, F6_0, F7_0, F8_0, F9_0, F10_0, F11_0, F12_0, F13_0, V0_0, V1_0, V2_0, V3_0, V4_0, V5_0, V6_0, V7_0, V8_0, V9_0, V10_0⟩ := B
  refine own_aloadN X0 hx (hb hby d11_0) rfl rfl 1 rfl ?_
  refine own_getF X0 hx hZ hown (own_w hw 44 rfl) Via.refl e0 F13_0 (hb hby d11_1) 4 rfl (fun T1004 X1004 e1004 => ?_)
  refine own_iloadN X1004 hx (hb hby d11_4) rfl 5 rfl ?_
  refine own_aloadN X1004 hx (hb hby d11_5) rfl rfl 6 rfl ?_
  refine own_aloadN X1004 hx (hb hby d11_6) rfl rfl 7 rfl ?_
  refine own_iloadN X1004 hx (hb hby d11_7) rfl 8 rfl ?_
  refine own_callU X1004 hx hZ hown (own_w hw 87 rfl) (own_w hw 88 rfl) (own_w hw 89 rfl) (own_w hw 91 rfl) (own_w hw 90 rfl) (own_w hw 9 rfl) (own_w hw 92 rfl) (by decide) e1004 E0 (rm8 l Z a0 hw [] a a1_ a2_ a3_ a4_ a5_ a6_ a7_ a8_ a9_ a10_ a11_ va vb vp h0 n0 Z0 ga hord ⟨E0, F0_0, F1_0, F2_0, F3_0, F4_0, F5_0, F6_0, F7_0, F8_0, F9_0, F10_0, F11_0, F12_0, F13_0, V0_0, V1_0, V2_0, V3_0, V4_0, V5_0, V6_0, V7_0, V8_0, V9_0, V10_0⟩ ) (by rw [hml]; rfl) pd_2 (argsL := [(.int (0 : Int32))]) rfl (rest := [(.ref a), (.int (0 : Int32)), (.ref a11_)]) rfl (hb hby d11_8) 3 (Nat.le_of_eq rfl) (by decide) (by decide) (by decide) (by decide) 11 rfl (fun T1006 L1006 v1006 X1006 hQ1006 => ?_)
  obtain ⟨rfl, N1006, e1006⟩ := hQ1006
  have N1007 := Fr.app N0 N1006
  show own_Go p e below G (T1006.setTop (mkF m 11 #[.val (.ref a), .val (.int (0 : Int32))] [(.int (-1 : Int32)), (.ref a), (.int (0 : Int32)), (.ref a11_)]))
  refine own_callP X1006 hx hZ hown (own_w hw 93 rfl) (own_w hw 94 rfl) (own_w hw 95 rfl) (own_niI hZ (own_w hw 1 rfl)) (own_w hw 2 rfl) (own_w hw 96 rfl) (by decide) e1006 E0 (rm9 l Z a0 hw [] a a1_ a2_ a3_ a4_ a5_ a6_ a7_ a8_ a9_ a10_ a11_ va vb vp h0 n0 Z0 ga hord ⟨E0, F0_0, F1_0, F2_0, F3_0, F4_0, F5_0, F6_0, F7_0, F8_0, F9_0, F10_0, F11_0, F12_0, F13_0, V0_0, V1_0, V2_0, V3_0, V4_0, V5_0, V6_0, V7_0, V8_0, V9_0, V10_0⟩ ) (by rw [hml]; rfl) pd_4 (argsL := [(.int (-1 : Int32))]) rfl (rest := [(.int (0 : Int32)), (.ref a11_)]) rfl (hb hby d11_11) 2 (Nat.le_of_eq rfl) (by decide) (by decide) (by decide) (by decide) 14 rfl (fun T1008 L1008 v1008 X1008 hQ1008 => ?_)
  obtain ⟨rfl, N1008, e1008⟩ := hQ1008
  have N1009 := Fr.app N1007 N1008
  show own_Go p e below G (T1008.setTop (mkF m 14 #[.val (.ref a), .val (.int (0 : Int32))] [(.long (0 : Int64)), (.int (0 : Int32)), (.ref a11_)]))
  refine own_aloadN X1008 hx (hb hby d11_14) rfl rfl 15 rfl ?_
  refine own_getF X1008 hx hZ hown (own_w hw 42 rfl) Via.refl e1008 F12_0 (hb hby d11_15) 18 rfl (fun T1010 X1010 e1010 => ?_)
  refine own_iloadN X1010 hx (hb hby d11_18) rfl 19 rfl ?_
  refine own_laload X1010 hx hZ e1010 V9_0 0 rfl vp rfl (hb hby d11_19) 20 rfl ?_
  refine own_ladd X1010 hx (hb hby d11_20) 21 rfl ?_
  refine own_aloadN X1010 hx (hb hby d11_21) rfl rfl 22 rfl ?_
  refine own_aloadN X1010 hx (hb hby d11_22) rfl rfl 23 rfl ?_
  refine own_iloadN X1010 hx (hb hby d11_23) rfl 24 rfl ?_
  refine own_callU X1010 hx hZ hown (own_w hw 97 rfl) (own_w hw 98 rfl) (own_w hw 99 rfl) (own_w hw 101 rfl) (own_w hw 100 rfl) (own_w hw 9 rfl) (own_w hw 102 rfl) (by decide) e1010 E0 (rm10 l Z a0 hw [] a a1_ a2_ a3_ a4_ a5_ a6_ a7_ a8_ a9_ a10_ a11_ va vb vp h0 n0 Z0 ga hord ⟨E0, F0_0, F1_0, F2_0, F3_0, F4_0, F5_0, F6_0, F7_0, F8_0, F9_0, F10_0, F11_0, F12_0, F13_0, V0_0, V1_0, V2_0, V3_0, V4_0, V5_0, V6_0, V7_0, V8_0, V9_0, V10_0⟩ ) (by rw [hml]; rfl) pd_2 (argsL := [(.int (0 : Int32))]) rfl (rest := [(.ref a), (.long ((0 : Int64) + vp)), (.int (0 : Int32)), (.ref a11_)]) rfl (hb hby d11_24) 5 (Nat.le_of_eq rfl) (by decide) (by decide) (by decide) (by decide) 27 rfl (fun T1012 L1012 v1012 X1012 hQ1012 => ?_)
  obtain ⟨rfl, N1012, e1012⟩ := hQ1012
  have N1013 := Fr.app N1009 N1012
  show own_Go p e below G (T1012.setTop (mkF m 27 #[.val (.ref a), .val (.int (0 : Int32))] [(.int (-1 : Int32)), (.ref a), (.long ((0 : Int64) + vp)), (.int (0 : Int32)), (.ref a11_)]))
  refine own_callP X1012 hx hZ hown (own_w hw 93 rfl) (own_w hw 94 rfl) (own_w hw 95 rfl) (own_niI hZ (own_w hw 1 rfl)) (own_w hw 2 rfl) (own_w hw 96 rfl) (by decide) e1012 E0 (rm9 l Z a0 hw [] a a1_ a2_ a3_ a4_ a5_ a6_ a7_ a8_ a9_ a10_ a11_ va vb vp h0 n0 Z0 ga hord ⟨E0, F0_0, F1_0, F2_0, F3_0, F4_0, F5_0, F6_0, F7_0, F8_0, F9_0, F10_0, F11_0, F12_0, F13_0, V0_0, V1_0, V2_0, V3_0, V4_0, V5_0, V6_0, V7_0, V8_0, V9_0, V10_0⟩ ) (by rw [hml]; rfl) pd_4 (argsL := [(.int (-1 : Int32))]) rfl (rest := [(.long ((0 : Int64) + vp)), (.int (0 : Int32)), (.ref a11_)]) rfl (hb hby d11_27) 4 (Nat.le_of_eq rfl) (by decide) (by decide) (by decide) (by decide) 30 rfl (fun T1014 L1014 v1014 X1014 hQ1014 => ?_)
  obtain ⟨rfl, N1014, e1014⟩ := hQ1014
  have N1015 := Fr.app N1013 N1014
  show own_Go p e below G (T1014.setTop (mkF m 30 #[.val (.ref a), .val (.int (0 : Int32))] [(.long (0 : Int64)), (.long ((0 : Int64) + vp)), (.int (0 : Int32)), (.ref a11_)]))
  refine own_ladd X1014 hx (hb hby d11_30) 31 rfl ?_
  refine own_lastore X1014 hx hZ e1014 V10_0 0 rfl (by simp) (hb hby d11_31) 32 rfl (fun T1016 h1016 X1016 e1016 W1016 V1016 => ?_)
  rw [show [(0 : Int64), (0 : Int64)].set 0 (((0 : Int64) + vp) + (0 : Int64)) = [(((0 : Int64) + vp) + (0 : Int64)), (0 : Int64)] from rfl] at V1016
  have N1017 := Fr.snoc X1016 N1015 (by omega)
  have Z1018 : n0 ≤ h1016.size := by rw [W1016.size]; exact Z0
  have E1019 := E0.wr W1016
  have F1020 := F0_0.other W1016 (Or.inl (Nat.ne_of_lt (by omega)))
  have F1021 := F1_0.other W1016 (Or.inl (Nat.ne_of_lt (by omega)))
  have F1022 := F2_0.other W1016 (Or.inl (Nat.ne_of_lt (by omega)))
  have F1023 := F3_0.other W1016 (Or.inl (Nat.ne_of_lt (by omega)))
  have F1024 := F4_0.other W1016 (Or.inl (Nat.ne_of_lt (by omega)))
  have F1025 := F5_0.other W1016 (Or.inl (Nat.ne_of_lt (by omega)))
  have F1026 := F6_0.other W1016 (Or.inl (Nat.ne_of_lt (by omega)))
  have F1027 := F7_0.other W1016 (Or.inl (Nat.ne_of_lt (by omega)))
  have F1028 := F8_0.other W1016 (Or.inl (Nat.ne_of_lt (by omega)))
  have F1029 := F9_0.other W1016 (Or.inl (Nat.ne_of_lt (by omega)))
  have F1030 := F10_0.other W1016 (Or.inl (Nat.ne_of_lt (by omega)))
  have F1031 := F11_0.other W1016 (Or.inl (Nat.ne_of_lt (by omega)))
  have F1032 := F12_0.other W1016 (Or.inl (Nat.ne_of_lt (by omega)))
  have F1033 := F13_0.other W1016 (Or.inl (Nat.ne_of_lt (by omega)))
  have V1034 := V0_0.other W1016 (Nat.ne_of_lt (by omega))
  have V1035 := V1_0.other W1016 (Nat.ne_of_lt (by omega))
  have V1036 := V2_0.other W1016 (Nat.ne_of_lt (by omega))
  have V1037 := V3_0.other W1016 (Nat.ne_of_lt (by omega))
  have V1038 := V4_0.other W1016 (Nat.ne_of_lt (by omega))
  have V1039 := V5_0.other W1016 (Nat.ne_of_lt (by omega))
  have V1040 := V6_0.other W1016 (Nat.ne_of_lt (by omega))
  have V1041 := V7_0.other W1016 (Nat.ne_of_lt (by omega))
  have V1042 := V8_0.other W1016 (Nat.ne_of_lt (by omega))
  have V1043 := V9_0.other W1016 (Nat.ne_of_lt (by omega))
  refine own_return X1016 hx Bd.notSynchronized hG Bd.returns (hb hby d11_32) (by decide) (by decide) ?_
  rw [e1016]
  exact ⟨rfl, N1017, Z1018, ⟨E1019, F1020, F1021, F1022, F1023, F1024, F1025, F1026, F1027, F1028, F1029, F1030, F1031, F1032, F1033, V1034, V1035, V1036, V1037, V1038, V1039, V1040, V1041, V1042, V1043, V1016⟩⟩
def Q5 (Z : State) (a a1_ a2_ a3_ a4_ a5_ a6_ a7_ a8_ a9_ a10_ a11_ : Addr) (va vb vp : Int64) (h0 : Heap) (n0 : Nat) (v : Option Value) (h : Heap) (L : List Loc) : Prop := v = none ∧ Fr n0 L ∧ n0 ≤ h.size ∧ own_PE Z h a a1_ a2_ a3_ a4_ a5_ a6_ a7_ a8_ a9_ a10_ a11_ (-1 : Int32) (1 : Int32) (1 : Int32) (List.replicate 127 (0 : Int32)) (List.replicate 127 (0 : Int32)) [(0 : Int32), (0 : Int32)] [(1 : Int32), (0 : Int32)] [(-1 : Int32), (0 : Int32)] [(-1 : Int32), (0 : Int32)] [(1 : Int32), (0 : Int32)] [va, (0 : Int64)] [vp, (0 : Int64)] [(((0 : Int64) + vp) + (0 : Int64)), (0 : Int64)]
theorem ef_rm5 (m : MethodId) (x0 : Addr) (x1 : Int32) : entryFrame m #[(.ref x0), (.int x1)] 2 = mkF m 0 #[.val (.ref x0), .val (.int x1)] [] := by first | (simp [entryFrame, mkF, argsToLocals, Value.category, maxLocals]; done) | rfl
set_option maxRecDepth 65536 in
set_option maxHeartbeats 40000000 in
theorem rm5 (l : Launch) (Z : State) (a0 : Array Value) (hw : ∀ d ∈ tables_1, d.before a0 Z = true) (ws : List Jvm.Cond) (a a1_ a2_ a3_ a4_ a5_ a6_ a7_ a8_ a9_ a10_ a11_ : Addr) (va vb vp : Int64) (h0 : Heap) (n0 : Nat) (Z0 : n0 ≤ h0.size) (ga : n0 ≤ a) (hord : own_Or a a1_ a2_ a3_ a4_ a5_ a6_ a7_ a8_ a9_ a10_ a11_) (B : own_PE Z h0 a a1_ a2_ a3_ a4_ a5_ a6_ a7_ a8_ a9_ a10_ a11_ (-1 : Int32) (1 : Int32) (1 : Int32) (List.replicate 127 (0 : Int32)) (List.replicate 127 (0 : Int32)) [(0 : Int32), (0 : Int32)] [(1 : Int32), (0 : Int32)] [(-1 : Int32), (0 : Int32)] [(-1 : Int32), (0 : Int32)] [(0 : Int32), (0 : Int32)] [va, (0 : Int64)] [vp, (0 : Int64)] [(0 : Int64), (0 : Int64)]) :
    MetFree l own_y8 (head1 (Jvm.Cond.code own_y8 prog_49_method_27_code 2 none :: ws) ({ frames := 2, cells := 0, slots := 0, locals := 31 } : Room)) (fun aR U => aR = #[(.ref a), (.int (0 : Int32))] ∧ Z.Warmed39 U.vm ∧ U.heap = h0) (fun _ _ _ _ _ => True) (fun _ U o U' => ∃ v L, o = .returned v ∧ Q5 Z a a1_ a2_ a3_ a4_ a5_ a6_ a7_ a8_ a9_ a10_ a11_ va vb vp h0 n0 v U'.heap L ∧ FrameEnd U o U' L ({ frames := 2, cells := 0, slots := 0, locals := 31 } : Room).cells ({ frames := 2, cells := 0, slots := 0, locals := 31 } : Room).slots) := by
  refine MetFree.of_bodySF pf_8 hisR ?_
  intro p e s m args below meth c s₁ Bd hml0 hP hK
  obtain ⟨rfl, hZ, hhE⟩ := hP
  have hx := Bd.exec
  have hby := Bd.bytes
  have hml : c.maxLocals = 2 := hml0
  have hown : s.vm.findClass "com/example/equitide/equitide/policy/backfilling/AvlTree" = some m.cls := findClass_of_methodNamed Bd.named
  have hnm := (name_of_methodNamed Bd.named Bd.method).1
  have X0 : Stand p l e ({ frames := 2, cells := 0, slots := 0, locals := 31 } : Room) s m #[(.ref a), (.int (0 : Int32))] below meth c s₁ [] 0 0 := Stand.of_body Bd
  have e0 : s₁.heap = h0 := by rw [← hhE, Bd.state]; rfl
  have N0 := Fr.nil n0
  show own_Go p e below (own_Post s (Q5 Z a a1_ a2_ a3_ a4_ a5_ a6_ a7_ a8_ a9_ a10_ a11_ va vb vp h0 n0) ({ frames := 2, cells := 0, slots := 0, locals := 31 } : Room).cells ({ frames := 2, cells := 0, slots := 0, locals := 31 } : Room).slots) (s₁.setTop (entryFrame m #[(.ref a), (.int (0 : Int32))] 2))
  rw [ef_rm5]
  generalize hG : own_Post s (Q5 Z a a1_ a2_ a3_ a4_ a5_ a6_ a7_ a8_ a9_ a10_ a11_ va vb vp h0 n0) ({ frames := 2, cells := 0, slots := 0, locals := 31 } : Room).cells ({ frames := 2, cells := 0, slots := 0, locals := 31 } : Room).slots = G
  obtain ⟨o1, o2, o3, o4, o5, o6, o7, o8, o9, o10, o11⟩ := id hord
  obtain ⟨E0, F0_0, F1_0, F2_0, F3_0, F4_0, F5_0, F6_0, F7_0, F8_0, F9_0, F10_0, F11_0, F12_0, F13_0, V0_0, V1_0, V2_0, V3_0, V4_0, V5_0, V6_0, V7_0, V8_0, V9_0, V10_0⟩ := B
  refine own_aloadN X0 hx (hb hby d8_0) rfl rfl 1 rfl ?_
  refine own_getF X0 hx hZ hown (own_w hw 37 rfl) Via.refl e0 F10_0 (hb hby d8_1) 4 rfl (fun T967 X967 e967 => ?_)
  refine own_iloadN X967 hx (hb hby d8_4) rfl 5 rfl ?_
  refine own_iconst X967 hx (hb hby d8_5) (1 : Int32) rfl 6 rfl ?_
  refine own_aloadN X967 hx (hb hby d8_6) rfl rfl 7 rfl ?_
  refine own_aloadN X967 hx (hb hby d8_7) rfl rfl 8 rfl ?_
  refine own_getF X967 hx hZ hown (own_w hw 27 rfl) Via.refl e967 F7_0 (hb hby d8_8) 11 rfl (fun T968 X968 e968 => ?_)
  refine own_iloadN X968 hx (hb hby d8_11) rfl 12 rfl ?_
  refine own_iaload X968 hx hZ e968 V4_0 0 rfl (-1 : Int32) rfl (hb hby d8_12) 13 rfl ?_
  refine own_callP X968 hx hZ hown (own_w hw 74 rfl) (own_w hw 75 rfl) (own_w hw 76 rfl) (own_niS hZ (own_w hw 60 rfl) (own_w hw 59 rfl) rfl) (own_w hw 9 rfl) (own_w hw 77 rfl) (by decide) e968 E0 (rm6 l Z a0 hw [] a a1_ a2_ a3_ a4_ a5_ a6_ a7_ a8_ a9_ a10_ a11_ va vb vp h0 n0 Z0 ga hord ⟨E0, F0_0, F1_0, F2_0, F3_0, F4_0, F5_0, F6_0, F7_0, F8_0, F9_0, F10_0, F11_0, F12_0, F13_0, V0_0, V1_0, V2_0, V3_0, V4_0, V5_0, V6_0, V7_0, V8_0, V9_0, V10_0⟩ ) (by rw [hml]; rfl) pd_2 (argsL := [(.int (-1 : Int32))]) rfl (rest := [(.int (1 : Int32)), (.int (0 : Int32)), (.ref a8_)]) rfl (hb hby d8_13) 3 (Nat.le_of_eq rfl) (by decide) (by decide) (by decide) (by decide) 16 rfl (fun T969 L969 v969 X969 hQ969 => ?_)
  obtain ⟨rfl, N969, e969⟩ := hQ969
  have N970 := Fr.app N0 N969
  show own_Go p e below G (T969.setTop (mkF m 16 #[.val (.ref a), .val (.int (0 : Int32))] [(.int (0 : Int32)), (.int (1 : Int32)), (.int (0 : Int32)), (.ref a8_)]))
  refine own_aloadN X969 hx (hb hby d8_16) rfl rfl 17 rfl ?_
  refine own_aloadN X969 hx (hb hby d8_17) rfl rfl 18 rfl ?_
  refine own_getF X969 hx hZ hown (own_w hw 29 rfl) Via.refl e969 F8_0 (hb hby d8_18) 21 rfl (fun T971 X971 e971 => ?_)
  refine own_iloadN X971 hx (hb hby d8_21) rfl 22 rfl ?_
  refine own_iaload X971 hx hZ e971 V5_0 0 rfl (-1 : Int32) rfl (hb hby d8_22) 23 rfl ?_
  refine own_callP X971 hx hZ hown (own_w hw 74 rfl) (own_w hw 75 rfl) (own_w hw 76 rfl) (own_niS hZ (own_w hw 60 rfl) (own_w hw 59 rfl) rfl) (own_w hw 9 rfl) (own_w hw 77 rfl) (by decide) e971 E0 (rm6 l Z a0 hw [] a a1_ a2_ a3_ a4_ a5_ a6_ a7_ a8_ a9_ a10_ a11_ va vb vp h0 n0 Z0 ga hord ⟨E0, F0_0, F1_0, F2_0, F3_0, F4_0, F5_0, F6_0, F7_0, F8_0, F9_0, F10_0, F11_0, F12_0, F13_0, V0_0, V1_0, V2_0, V3_0, V4_0, V5_0, V6_0, V7_0, V8_0, V9_0, V10_0⟩ ) (by rw [hml]; rfl) pd_2 (argsL := [(.int (-1 : Int32))]) rfl (rest := [(.int (0 : Int32)), (.int (1 : Int32)), (.int (0 : Int32)), (.ref a8_)]) rfl (hb hby d8_23) 4 (Nat.le_of_eq rfl) (by decide) (by decide) (by decide) (by decide) 26 rfl (fun T972 L972 v972 X972 hQ972 => ?_)
  obtain ⟨rfl, N972, e972⟩ := hQ972
  have N973 := Fr.app N970 N972
  show own_Go p e below G (T972.setTop (mkF m 26 #[.val (.ref a), .val (.int (0 : Int32))] [(.int (0 : Int32)), (.int (0 : Int32)), (.int (1 : Int32)), (.int (0 : Int32)), (.ref a8_)]))
  refine own_callS X972 hx hZ hown (own_w hw 78 rfl) (own_w hw 79 rfl) (own_w hw 80 rfl) (own_w hw 81 rfl) (by decide) e972 (rmMax l Z a0 hw [] (0 : Int32) (0 : Int32) h0 n0) (by rw [hml]; rfl) pd_3 (argsL := [(.int (0 : Int32)), (.int (0 : Int32))]) rfl (rest := [(.int (1 : Int32)), (.int (0 : Int32)), (.ref a8_)]) rfl (hb hby d8_26) 3 (Nat.le_of_eq rfl) (by decide) (by decide) (by decide) (by decide) 29 rfl (fun T974 L974 v974 X974 hQ974 => ?_)
  obtain ⟨rfl, N974, e974⟩ := hQ974
  have N975 := Fr.app N973 N974
  show own_Go p e below G (T974.setTop (mkF m 29 #[.val (.ref a), .val (.int (0 : Int32))] [(.int (own_max (0 : Int32) (0 : Int32))), (.int (1 : Int32)), (.int (0 : Int32)), (.ref a8_)]))
  rw [show own_max (0 : Int32) (0 : Int32) = (0 : Int32) from rfl]
  refine own_iadd X974 hx (hb hby d8_29) 30 rfl ?_
  show own_Go p e below G (T974.setTop (mkF m 30 #[.val (.ref a), .val (.int (0 : Int32))] [(.int (1 : Int32)), (.int (0 : Int32)), (.ref a8_)]))
  refine own_i2b X974 hx (hb hby d8_30) 31 rfl ?_
  show own_Go p e below G (T974.setTop (mkF m 31 #[.val (.ref a), .val (.int (0 : Int32))] [(.int (1 : Int32)), (.int (0 : Int32)), (.ref a8_)]))
  refine own_bastore X974 hx hZ e974 V7_0 0 rfl (by simp) (hb hby d8_31) 32 rfl (fun T976 h976 X976 e976 W976 V976 => ?_)
  rw [show [(0 : Int32), (0 : Int32)].set 0 ((1 : Int32).toInt8.toInt32) = [(1 : Int32), (0 : Int32)] from rfl] at V976
  have N977 := Fr.snoc X976 N975 (by omega)
  have Z978 : n0 ≤ h976.size := by rw [W976.size]; exact Z0
  have E979 := E0.wr W976
  have F980 := F0_0.other W976 (Or.inl (Nat.ne_of_lt (by omega)))
  have F981 := F1_0.other W976 (Or.inl (Nat.ne_of_lt (by omega)))
  have F982 := F2_0.other W976 (Or.inl (Nat.ne_of_lt (by omega)))
  have F983 := F3_0.other W976 (Or.inl (Nat.ne_of_lt (by omega)))
  have F984 := F4_0.other W976 (Or.inl (Nat.ne_of_lt (by omega)))
  have F985 := F5_0.other W976 (Or.inl (Nat.ne_of_lt (by omega)))
  have F986 := F6_0.other W976 (Or.inl (Nat.ne_of_lt (by omega)))
  have F987 := F7_0.other W976 (Or.inl (Nat.ne_of_lt (by omega)))
  have F988 := F8_0.other W976 (Or.inl (Nat.ne_of_lt (by omega)))
  have F989 := F9_0.other W976 (Or.inl (Nat.ne_of_lt (by omega)))
  have F990 := F10_0.other W976 (Or.inl (Nat.ne_of_lt (by omega)))
  have F991 := F11_0.other W976 (Or.inl (Nat.ne_of_lt (by omega)))
  have F992 := F12_0.other W976 (Or.inl (Nat.ne_of_lt (by omega)))
  have F993 := F13_0.other W976 (Or.inl (Nat.ne_of_lt (by omega)))
  have V994 := V0_0.other W976 (Nat.ne_of_lt (by omega))
  have V995 := V1_0.other W976 (Nat.ne_of_lt (by omega))
  have V996 := V2_0.other W976 (Nat.ne_of_lt (by omega))
  have V997 := V3_0.other W976 (Nat.ne_of_lt (by omega))
  have V998 := V4_0.other W976 (Nat.ne_of_lt (by omega))
  have V999 := V5_0.other W976 (Nat.ne_of_lt (by omega))
  have V1000 := V6_0.other W976 (Nat.ne_of_lt (by omega))
  have V1001 := V8_0.other W976 (Ne.symm (Nat.ne_of_lt (by omega)))
  have V1002 := V9_0.other W976 (Ne.symm (Nat.ne_of_lt (by omega)))
  have V1003 := V10_0.other W976 (Ne.symm (Nat.ne_of_lt (by omega)))
  refine own_aloadN X976 hx (hb hby d8_32) rfl rfl 33 rfl ?_
  refine own_iloadN X976 hx (hb hby d8_33) rfl 34 rfl ?_
  refine own_callV X976 hx hZ hown (own_w hw 82 rfl) (own_w hw 83 rfl) (own_w hw 84 rfl) (own_nfS (own_niS hZ (own_w hw 60 rfl) (own_w hw 59 rfl) rfl)) (own_w hw 85 rfl) (own_w hw 2 rfl) (own_w hw 86 rfl) (by decide) e976 E979 (rm7 l Z a0 hw [] a a1_ a2_ a3_ a4_ a5_ a6_ a7_ a8_ a9_ a10_ a11_ va vb vp h976 n0 Z978 ga hord ⟨E979, F980, F981, F982, F983, F984, F985, F986, F987, F988, F989, F990, F991, F992, F993, V994, V995, V996, V997, V998, V999, V1000, V976, V1001, V1002, V1003⟩ ) (by rw [hml]; rfl) pd_5 (argsL := [(.int (0 : Int32))]) rfl (rest := []) rfl (hb hby d8_34) 0 (Nat.le_of_eq rfl) (by decide) (by decide) (by decide) (by decide) 37 rfl (fun T1044 L1044 v1044 X1044 hQ1044 => ?_)
  obtain ⟨rfl, N1044, Z1044, B1044⟩ := hQ1044
  have N1045 := Fr.app N977 N1044
  obtain ⟨E1044, F0_1044, F1_1044, F2_1044, F3_1044, F4_1044, F5_1044, F6_1044, F7_1044, F8_1044, F9_1044, F10_1044, F11_1044, F12_1044, F13_1044, V0_1044, V1_1044, V2_1044, V3_1044, V4_1044, V5_1044, V6_1044, V7_1044, V8_1044, V9_1044, V10_1044⟩ := B1044
  show own_Go p e below G (T1044.setTop (mkF m 37 #[.val (.ref a), .val (.int (0 : Int32))] []))
  refine own_return X1044 hx Bd.notSynchronized hG Bd.returns (hb hby d8_37) (by decide) (by decide) ?_
  skip
  exact ⟨rfl, N1045, Z1044, ⟨E1044, F0_1044, F1_1044, F2_1044, F3_1044, F4_1044, F5_1044, F6_1044, F7_1044, F8_1044, F9_1044, F10_1044, F11_1044, F12_1044, F13_1044, V0_1044, V1_1044, V2_1044, V3_1044, V4_1044, V5_1044, V6_1044, V7_1044, V8_1044, V9_1044, V10_1044⟩⟩
def Q11 (Z : State) (a a1_ a2_ a3_ a4_ a5_ a6_ a7_ a8_ a9_ a10_ a11_ : Addr) (va vb vp : Int64) (h0 : Heap) (n0 : Nat) (v : Option Value) (h : Heap) (L : List Loc) : Prop := v = some (.int (0 : Int32)) ∧ Fr n0 L ∧ h = h0
theorem ef_rm11 (m : MethodId) (x0 : Addr) (x1 : Int32) (x2 : Int32) : entryFrame m #[(.ref x0), (.int x1), (.int x2)] 5 = mkF m 0 #[.val (.ref x0), .val (.int x1), .val (.int x2), .unset, .unset] [] := by first | (simp [entryFrame, mkF, argsToLocals, Value.category, maxLocals]; done) | rfl
set_option maxRecDepth 65536 in
set_option maxHeartbeats 40000000 in
theorem rm11 (l : Launch) (Z : State) (a0 : Array Value) (hw : ∀ d ∈ tables_1, d.before a0 Z = true) (ws : List Jvm.Cond) (a a1_ a2_ a3_ a4_ a5_ a6_ a7_ a8_ a9_ a10_ a11_ : Addr) (va vb vp : Int64) (h0 : Heap) (n0 : Nat) (Z0 : n0 ≤ h0.size) (ga : n0 ≤ a) (hord : own_Or a a1_ a2_ a3_ a4_ a5_ a6_ a7_ a8_ a9_ a10_ a11_) (B : own_PE Z h0 a a1_ a2_ a3_ a4_ a5_ a6_ a7_ a8_ a9_ a10_ a11_ (-1 : Int32) (1 : Int32) (1 : Int32) (List.replicate 127 (0 : Int32)) (List.replicate 127 (0 : Int32)) [(0 : Int32), (0 : Int32)] [(1 : Int32), (0 : Int32)] [(-1 : Int32), (0 : Int32)] [(-1 : Int32), (0 : Int32)] [(1 : Int32), (0 : Int32)] [va, (0 : Int64)] [vp, (0 : Int64)] [(((0 : Int64) + vp) + (0 : Int64)), (0 : Int64)]) :
    MetFree l own_y15 (head1 (Jvm.Cond.code own_y15 prog_49_method_22_code 5 (some .int) :: ws) ({ frames := 0, cells := 0, slots := 0, locals := 0 } : Room)) (fun aR U => aR = #[(.ref a), (.int (0 : Int32)), (.int (-1 : Int32))] ∧ Z.Warmed39 U.vm ∧ U.heap = h0) (fun _ _ _ _ _ => True) (fun _ U o U' => ∃ v L, o = .returned v ∧ Q11 Z a a1_ a2_ a3_ a4_ a5_ a6_ a7_ a8_ a9_ a10_ a11_ va vb vp h0 n0 v U'.heap L ∧ FrameEnd U o U' L ({ frames := 0, cells := 0, slots := 0, locals := 0 } : Room).cells ({ frames := 0, cells := 0, slots := 0, locals := 0 } : Room).slots) := by
  refine MetFree.of_bodySF pf_15 hisR ?_
  intro p e s m args below meth c s₁ Bd hml0 hP hK
  obtain ⟨rfl, hZ, hhE⟩ := hP
  have hx := Bd.exec
  have hby := Bd.bytes
  have hml : c.maxLocals = 5 := hml0
  have hown : s.vm.findClass "com/example/equitide/equitide/policy/backfilling/AvlTree" = some m.cls := findClass_of_methodNamed Bd.named
  have hnm := (name_of_methodNamed Bd.named Bd.method).1
  have X0 : Stand p l e ({ frames := 0, cells := 0, slots := 0, locals := 0 } : Room) s m #[(.ref a), (.int (0 : Int32)), (.int (-1 : Int32))] below meth c s₁ [] 0 0 := Stand.of_body Bd
  have e0 : s₁.heap = h0 := by rw [← hhE, Bd.state]; rfl
  have N0 := Fr.nil n0
  show own_Go p e below (own_Post s (Q11 Z a a1_ a2_ a3_ a4_ a5_ a6_ a7_ a8_ a9_ a10_ a11_ va vb vp h0 n0) ({ frames := 0, cells := 0, slots := 0, locals := 0 } : Room).cells ({ frames := 0, cells := 0, slots := 0, locals := 0 } : Room).slots) (s₁.setTop (entryFrame m #[(.ref a), (.int (0 : Int32)), (.int (-1 : Int32))] 5))
  rw [ef_rm11]
  generalize hG : own_Post s (Q11 Z a a1_ a2_ a3_ a4_ a5_ a6_ a7_ a8_ a9_ a10_ a11_ va vb vp h0 n0) ({ frames := 0, cells := 0, slots := 0, locals := 0 } : Room).cells ({ frames := 0, cells := 0, slots := 0, locals := 0 } : Room).slots = G
  obtain ⟨o1, o2, o3, o4, o5, o6, o7, o8, o9, o10, o11⟩ := id hord
  obtain ⟨E0, F0_0, F1_0, F2_0, F3_0, F4_0, F5_0, F6_0, F7_0, F8_0, F9_0, F10_0, F11_0, F12_0, F13_0, V0_0, V1_0, V2_0, V3_0, V4_0, V5_0, V6_0, V7_0, V8_0, V9_0, V10_0⟩ := B
  refine own_iconst X0 hx (hb hby d15_0) (0 : Int32) rfl 1 rfl ?_
  refine own_istoreN X0 hx (hb hby d15_1) #[.val (.ref a), .val (.int (0 : Int32)), .val (.int (-1 : Int32)), .val (.int (0 : Int32)), .unset] rfl 2 rfl ?_
  refine own_aloadN X0 hx (hb hby d15_2) rfl rfl 3 rfl ?_
  refine own_getF X0 hx hZ hown (own_w hw 14 rfl) Via.refl e0 F0_0 (hb hby d15_3) 6 rfl (fun T1048 X1048 e1048 => ?_)
  refine own_istore X1048 hx (hb hby d15_6) #[.val (.ref a), .val (.int (0 : Int32)), .val (.int (-1 : Int32)), .val (.int (0 : Int32)), .val (.int (-1 : Int32))] rfl 8 rfl ?_
  refine own_iload X1048 hx (hb hby d15_8) rfl 10 rfl ?_
  refine own_iloadN X1048 hx (hb hby d15_10) rfl 11 rfl ?_
  refine own_icmpY X1048 hx (hb hby d15_11) (teq (by decide)).1 65 ⟨by decide, by decide⟩ ?_
  refine own_iloadN X1048 hx (hb hby d15_65) rfl 66 rfl ?_
  refine own_ireturn X1048 hx Bd.notSynchronized hG Bd.returns (hb hby d15_66) (by decide) (by decide) ?_
  rw [e1048]
  exact ⟨rfl, N0, rfl⟩
def Q12 (Z : State) (a a1_ a2_ a3_ a4_ a5_ a6_ a7_ a8_ a9_ a10_ a11_ : Addr) (va vb vp : Int64) (h0 : Heap) (n0 : Nat) (v : Option Value) (h : Heap) (L : List Loc) : Prop := v = some (.int (0 : Int32)) ∧ Fr n0 L ∧ h = h0
theorem ef_rm12 (m : MethodId) (x0 : Addr) (x1 : Int32) (x2 : Int32) (x3 : Int32) : entryFrame m #[(.ref x0), (.int x1), (.int x2), (.int x3)] 6 = mkF m 0 #[.val (.ref x0), .val (.int x1), .val (.int x2), .val (.int x3), .unset, .unset] [] := by first | (simp [entryFrame, mkF, argsToLocals, Value.category, maxLocals]; done) | rfl
set_option maxRecDepth 65536 in
set_option maxHeartbeats 40000000 in
theorem rm12 (l : Launch) (Z : State) (a0 : Array Value) (hw : ∀ d ∈ tables_1, d.before a0 Z = true) (ws : List Jvm.Cond) (a a1_ a2_ a3_ a4_ a5_ a6_ a7_ a8_ a9_ a10_ a11_ : Addr) (va vb vp : Int64) (h0 : Heap) (n0 : Nat) (Z0 : n0 ≤ h0.size) (ga : n0 ≤ a) (hord : own_Or a a1_ a2_ a3_ a4_ a5_ a6_ a7_ a8_ a9_ a10_ a11_) (B : own_PE Z h0 a a1_ a2_ a3_ a4_ a5_ a6_ a7_ a8_ a9_ a10_ a11_ (-1 : Int32) (1 : Int32) (1 : Int32) (List.replicate 127 (0 : Int32)) (List.replicate 127 (0 : Int32)) [(0 : Int32), (0 : Int32)] [(1 : Int32), (0 : Int32)] [(-1 : Int32), (0 : Int32)] [(-1 : Int32), (0 : Int32)] [(1 : Int32), (0 : Int32)] [va, (0 : Int64)] [vp, (0 : Int64)] [(((0 : Int64) + vp) + (0 : Int64)), (0 : Int64)]) :
    MetFree l own_y16 (head1 (Jvm.Cond.code own_y16 prog_49_method_23_code 6 (some .int) :: ws) ({ frames := 0, cells := 0, slots := 0, locals := 0 } : Room)) (fun aR U => aR = #[(.ref a), (.int (0 : Int32)), (.int (0 : Int32)), (.int (0 : Int32))] ∧ Z.Warmed39 U.vm ∧ U.heap = h0) (fun _ _ _ _ _ => True) (fun _ U o U' => ∃ v L, o = .returned v ∧ Q12 Z a a1_ a2_ a3_ a4_ a5_ a6_ a7_ a8_ a9_ a10_ a11_ va vb vp h0 n0 v U'.heap L ∧ FrameEnd U o U' L ({ frames := 0, cells := 0, slots := 0, locals := 0 } : Room).cells ({ frames := 0, cells := 0, slots := 0, locals := 0 } : Room).slots) := by
  refine MetFree.of_bodySF pf_16 hisR ?_
  intro p e s m args below meth c s₁ Bd hml0 hP hK
  obtain ⟨rfl, hZ, hhE⟩ := hP
  have hx := Bd.exec
  have hby := Bd.bytes
  have hml : c.maxLocals = 6 := hml0
  have hown : s.vm.findClass "com/example/equitide/equitide/policy/backfilling/AvlTree" = some m.cls := findClass_of_methodNamed Bd.named
  have hnm := (name_of_methodNamed Bd.named Bd.method).1
  have X0 : Stand p l e ({ frames := 0, cells := 0, slots := 0, locals := 0 } : Room) s m #[(.ref a), (.int (0 : Int32)), (.int (0 : Int32)), (.int (0 : Int32))] below meth c s₁ [] 0 0 := Stand.of_body Bd
  have e0 : s₁.heap = h0 := by rw [← hhE, Bd.state]; rfl
  have N0 := Fr.nil n0
  show own_Go p e below (own_Post s (Q12 Z a a1_ a2_ a3_ a4_ a5_ a6_ a7_ a8_ a9_ a10_ a11_ va vb vp h0 n0) ({ frames := 0, cells := 0, slots := 0, locals := 0 } : Room).cells ({ frames := 0, cells := 0, slots := 0, locals := 0 } : Room).slots) (s₁.setTop (entryFrame m #[(.ref a), (.int (0 : Int32)), (.int (0 : Int32)), (.int (0 : Int32))] 6))
  rw [ef_rm12]
  generalize hG : own_Post s (Q12 Z a a1_ a2_ a3_ a4_ a5_ a6_ a7_ a8_ a9_ a10_ a11_ va vb vp h0 n0) ({ frames := 0, cells := 0, slots := 0, locals := 0 } : Room).cells ({ frames := 0, cells := 0, slots := 0, locals := 0 } : Room).slots = G
  obtain ⟨o1, o2, o3, o4, o5, o6, o7, o8, o9, o10, o11⟩ := id hord
  obtain ⟨E0, F0_0, F1_0, F2_0, F3_0, F4_0, F5_0, F6_0, F7_0, F8_0, F9_0, F10_0, F11_0, F12_0, F13_0, V0_0, V1_0, V2_0, V3_0, V4_0, V5_0, V6_0, V7_0, V8_0, V9_0, V10_0⟩ := B
  refine own_iloadN X0 hx (hb hby d16_0) rfl 1 rfl ?_
  refine own_istore X0 hx (hb hby d16_1) #[.val (.ref a), .val (.int (0 : Int32)), .val (.int (0 : Int32)), .val (.int (0 : Int32)), .val (.int (0 : Int32)), .unset] rfl 3 rfl ?_
  refine own_iloadN X0 hx (hb hby d16_3) rfl 4 rfl ?_
  refine own_istore X0 hx (hb hby d16_4) #[.val (.ref a), .val (.int (0 : Int32)), .val (.int (0 : Int32)), .val (.int (0 : Int32)), .val (.int (0 : Int32)), .val (.int (0 : Int32))] rfl 6 rfl ?_
  refine own_iload X0 hx (hb hby d16_6) rfl 8 rfl ?_
  refine own_iloadN X0 hx (hb hby d16_8) rfl 9 rfl ?_
  refine own_icmpY X0 hx (hb hby d16_9) (flt (by decide)).2.2.2 59 ⟨by decide, by decide⟩ ?_
  refine own_iload X0 hx (hb hby d16_59) rfl 61 rfl ?_
  refine own_ireturn X0 hx Bd.notSynchronized hG Bd.returns (hb hby d16_61) (by decide) (by decide) ?_
  rw [e0]
  exact ⟨rfl, N0, rfl⟩
def Q4 (Z : State) (a a1_ a2_ a3_ a4_ a5_ a6_ a7_ a8_ a9_ a10_ a11_ : Addr) (va vb vp : Int64) (h0 : Heap) (n0 : Nat) (v : Option Value) (h : Heap) (L : List Loc) : Prop := v = none ∧ Fr n0 L ∧ n0 ≤ h.size ∧ own_PE Z h a a1_ a2_ a3_ a4_ a5_ a6_ a7_ a8_ a9_ a10_ a11_ (0 : Int32) (1 : Int32) (1 : Int32) (List.replicate 127 (0 : Int32)) (List.replicate 127 (0 : Int32)) [(0 : Int32), (0 : Int32)] [(1 : Int32), (0 : Int32)] [(-1 : Int32), (0 : Int32)] [(-1 : Int32), (0 : Int32)] [(1 : Int32), (0 : Int32)] [va, (0 : Int64)] [vp, (0 : Int64)] [(((0 : Int64) + vp) + (0 : Int64)), (0 : Int64)]
theorem ef_rm4 (m : MethodId) (x0 : Addr) (x1 : Int32) : entryFrame m #[(.ref x0), (.int x1)] 2 = mkF m 0 #[.val (.ref x0), .val (.int x1)] [] := by first | (simp [entryFrame, mkF, argsToLocals, Value.category, maxLocals]; done) | rfl
set_option maxRecDepth 65536 in
set_option maxHeartbeats 40000000 in
theorem rm4 (l : Launch) (Z : State) (a0 : Array Value) (hw : ∀ d ∈ tables_1, d.before a0 Z = true) (ws : List Jvm.Cond) (a a1_ a2_ a3_ a4_ a5_ a6_ a7_ a8_ a9_ a10_ a11_ : Addr) (va vb vp : Int64) (h0 : Heap) (n0 : Nat) (Z0 : n0 ≤ h0.size) (ga : n0 ≤ a) (hord : own_Or a a1_ a2_ a3_ a4_ a5_ a6_ a7_ a8_ a9_ a10_ a11_) (B : own_PE Z h0 a a1_ a2_ a3_ a4_ a5_ a6_ a7_ a8_ a9_ a10_ a11_ (-1 : Int32) (1 : Int32) (0 : Int32) (List.replicate 127 (0 : Int32)) (List.replicate 127 (0 : Int32)) [(0 : Int32), (0 : Int32)] [(1 : Int32), (0 : Int32)] [(-1 : Int32), (0 : Int32)] [(-1 : Int32), (0 : Int32)] [(0 : Int32), (0 : Int32)] [va, (0 : Int64)] [vp, (0 : Int64)] [(0 : Int64), (0 : Int64)]) :
    MetFree l own_y7 (head1 (Jvm.Cond.code own_y7 prog_49_method_12_code 2 none :: ws) ({ frames := 3, cells := 0, slots := 0, locals := 44 } : Room)) (fun aR U => aR = #[(.ref a), (.int (0 : Int32))] ∧ Z.Warmed39 U.vm ∧ U.heap = h0) (fun _ _ _ _ _ => True) (fun _ U o U' => ∃ v L, o = .returned v ∧ Q4 Z a a1_ a2_ a3_ a4_ a5_ a6_ a7_ a8_ a9_ a10_ a11_ va vb vp h0 n0 v U'.heap L ∧ FrameEnd U o U' L ({ frames := 3, cells := 0, slots := 0, locals := 44 } : Room).cells ({ frames := 3, cells := 0, slots := 0, locals := 44 } : Room).slots) := by
  refine MetFree.of_bodySF pf_7 hisR ?_
  intro p e s m args below meth c s₁ Bd hml0 hP hK
  obtain ⟨rfl, hZ, hhE⟩ := hP
  have hx := Bd.exec
  have hby := Bd.bytes
  have hml : c.maxLocals = 2 := hml0
  have hown : s.vm.findClass "com/example/equitide/equitide/policy/backfilling/AvlTree" = some m.cls := findClass_of_methodNamed Bd.named
  have hnm := (name_of_methodNamed Bd.named Bd.method).1
  have X0 : Stand p l e ({ frames := 3, cells := 0, slots := 0, locals := 44 } : Room) s m #[(.ref a), (.int (0 : Int32))] below meth c s₁ [] 0 0 := Stand.of_body Bd
  have e0 : s₁.heap = h0 := by rw [← hhE, Bd.state]; rfl
  have N0 := Fr.nil n0
  show own_Go p e below (own_Post s (Q4 Z a a1_ a2_ a3_ a4_ a5_ a6_ a7_ a8_ a9_ a10_ a11_ va vb vp h0 n0) ({ frames := 3, cells := 0, slots := 0, locals := 44 } : Room).cells ({ frames := 3, cells := 0, slots := 0, locals := 44 } : Room).slots) (s₁.setTop (entryFrame m #[(.ref a), (.int (0 : Int32))] 2))
  rw [ef_rm4]
  generalize hG : own_Post s (Q4 Z a a1_ a2_ a3_ a4_ a5_ a6_ a7_ a8_ a9_ a10_ a11_ va vb vp h0 n0) ({ frames := 3, cells := 0, slots := 0, locals := 44 } : Room).cells ({ frames := 3, cells := 0, slots := 0, locals := 44 } : Room).slots = G
  obtain ⟨o1, o2, o3, o4, o5, o6, o7, o8, o9, o10, o11⟩ := id hord
  obtain ⟨E0, F0_0, F1_0, F2_0, F3_0, F4_0, F5_0, F6_0, F7_0, F8_0, F9_0, F10_0, F11_0, F12_0, F13_0, V0_0, V1_0, V2_0, V3_0, V4_0, V5_0, V6_0, V7_0, V8_0, V9_0, V10_0⟩ := B
  refine own_aloadN X0 hx (hb hby d7_0) rfl rfl 1 rfl ?_
  refine own_dup X0 hx (hb hby d7_1) rfl 2 rfl ?_
  refine own_getF X0 hx hZ hown (own_w hw 68 rfl) Via.refl e0 F2_0 (hb hby d7_2) 5 rfl (fun T937 X937 e937 => ?_)
  refine own_iconst X937 hx (hb hby d7_5) (1 : Int32) rfl 6 rfl ?_
  refine own_iadd X937 hx (hb hby d7_6) 7 rfl ?_
  show own_Go p e below G (T937.setTop (mkF m 7 #[.val (.ref a), .val (.int (0 : Int32))] [(.int (1 : Int32)), (.ref a)]))
  refine own_putF X937 hx hZ hown (own_w hw 68 rfl) Via.refl e937 F2_0 E0 (Or.inl (own_w hw 69 rfl)) (own_w hw 1 rfl) (ty := .int) (v' := (.int (1 : Int32))) (by decide) rfl rfl (hb hby d7_7) 10 rfl (fun T938 h938 X938 e938 W938 => ?_)
  have N939 := Fr.snoc X938 N0 ga
  have Z940 : n0 ≤ h938.size := by rw [W938.size]; exact Z0
  have E941 := E0.wr W938
  have F942 := F0_0.other W938 (Or.inr (sn_169 hw))
  have F943 := F1_0.other W938 (Or.inr (sn_170 hw))
  have F944 := F2_0.same W938
  have F945 := F3_0.other W938 (Or.inr (sn_171 hw))
  have F946 := F4_0.other W938 (Or.inr (sn_172 hw))
  have F947 := F5_0.other W938 (Or.inr (sn_173 hw))
  have F948 := F6_0.other W938 (Or.inr (sn_174 hw))
  have F949 := F7_0.other W938 (Or.inr (sn_175 hw))
  have F950 := F8_0.other W938 (Or.inr (sn_176 hw))
  have F951 := F9_0.other W938 (Or.inr (sn_177 hw))
  have F952 := F10_0.other W938 (Or.inr (sn_178 hw))
  have F953 := F11_0.other W938 (Or.inr (sn_179 hw))
  have F954 := F12_0.other W938 (Or.inr (sn_180 hw))
  have F955 := F13_0.other W938 (Or.inr (sn_181 hw))
  have V956 := V0_0.other W938 (Ne.symm (Nat.ne_of_lt (by omega)))
  have V957 := V1_0.other W938 (Ne.symm (Nat.ne_of_lt (by omega)))
  have V958 := V2_0.other W938 (Ne.symm (Nat.ne_of_lt (by omega)))
  have V959 := V3_0.other W938 (Ne.symm (Nat.ne_of_lt (by omega)))
  have V960 := V4_0.other W938 (Ne.symm (Nat.ne_of_lt (by omega)))
  have V961 := V5_0.other W938 (Ne.symm (Nat.ne_of_lt (by omega)))
  have V962 := V6_0.other W938 (Ne.symm (Nat.ne_of_lt (by omega)))
  have V963 := V7_0.other W938 (Ne.symm (Nat.ne_of_lt (by omega)))
  have V964 := V8_0.other W938 (Ne.symm (Nat.ne_of_lt (by omega)))
  have V965 := V9_0.other W938 (Ne.symm (Nat.ne_of_lt (by omega)))
  have V966 := V10_0.other W938 (Ne.symm (Nat.ne_of_lt (by omega)))
  refine own_aloadN X938 hx (hb hby d7_10) rfl rfl 11 rfl ?_
  refine own_iloadN X938 hx (hb hby d7_11) rfl 12 rfl ?_
  refine own_callP X938 hx hZ hown (own_w hw 70 rfl) (own_w hw 71 rfl) (own_w hw 72 rfl) (own_niS hZ (own_w hw 60 rfl) (own_w hw 59 rfl) rfl) (own_w hw 9 rfl) (own_w hw 73 rfl) (by decide) e938 E941 (rm5 l Z a0 hw [] a a1_ a2_ a3_ a4_ a5_ a6_ a7_ a8_ a9_ a10_ a11_ va vb vp h938 n0 Z940 ga hord ⟨E941, F942, F943, F944, F945, F946, F947, F948, F949, F950, F951, F952, F953, F954, F955, V956, V957, V958, V959, V960, V961, V962, V963, V964, V965, V966⟩ ) (by rw [hml]; rfl) pd_5 (argsL := [(.int (0 : Int32))]) rfl (rest := []) rfl (hb hby d7_12) 0 (Nat.le_of_eq rfl) (by decide) (by decide) (by decide) (by decide) 15 rfl (fun T1046 L1046 v1046 X1046 hQ1046 => ?_)
  obtain ⟨rfl, N1046, Z1046, B1046⟩ := hQ1046
  have N1047 := Fr.app N939 N1046
  obtain ⟨E1046, F0_1046, F1_1046, F2_1046, F3_1046, F4_1046, F5_1046, F6_1046, F7_1046, F8_1046, F9_1046, F10_1046, F11_1046, F12_1046, F13_1046, V0_1046, V1_1046, V2_1046, V3_1046, V4_1046, V5_1046, V6_1046, V7_1046, V8_1046, V9_1046, V10_1046⟩ := B1046
  show own_Go p e below G (T1046.setTop (mkF m 15 #[.val (.ref a), .val (.int (0 : Int32))] []))
  refine own_aloadN X1046 hx (hb hby d7_15) rfl rfl 16 rfl ?_
  refine own_aloadN X1046 hx (hb hby d7_16) rfl rfl 17 rfl ?_
  refine own_iconst X1046 hx (hb hby d7_17) (0 : Int32) rfl 18 rfl ?_
  refine own_aloadN X1046 hx (hb hby d7_18) rfl rfl 19 rfl ?_
  refine own_iloadN X1046 hx (hb hby d7_19) rfl 20 rfl ?_
  refine own_iconst X1046 hx (hb hby d7_20) (-1 : Int32) rfl 21 rfl ?_
  refine own_callP X1046 hx hZ hown (own_w hw 103 rfl) (own_w hw 104 rfl) (own_w hw 105 rfl) (own_niS hZ (own_w hw 60 rfl) (own_w hw 59 rfl) rfl) (own_w hw 9 rfl) (own_w hw 106 rfl) (by decide) (rfl : T1046.heap = T1046.heap) E1046 (rm11 l Z a0 hw [] a a1_ a2_ a3_ a4_ a5_ a6_ a7_ a8_ a9_ a10_ a11_ va vb vp T1046.heap n0 Z1046 ga hord ⟨E1046, F0_1046, F1_1046, F2_1046, F3_1046, F4_1046, F5_1046, F6_1046, F7_1046, F8_1046, F9_1046, F10_1046, F11_1046, F12_1046, F13_1046, V0_1046, V1_1046, V2_1046, V3_1046, V4_1046, V5_1046, V6_1046, V7_1046, V8_1046, V9_1046, V10_1046⟩ ) (by rw [hml]; rfl) pd_3 (argsL := [(.int (0 : Int32)), (.int (-1 : Int32))]) rfl (rest := [(.int (0 : Int32)), (.ref a), (.ref a)]) rfl (hb hby d7_21) 3 (Nat.le_of_eq rfl) (by decide) (by decide) (by decide) (by decide) 24 rfl (fun T1049 L1049 v1049 X1049 hQ1049 => ?_)
  obtain ⟨rfl, N1049, e1049⟩ := hQ1049
  have N1050 := Fr.app N1047 N1049
  show own_Go p e below G (T1049.setTop (mkF m 24 #[.val (.ref a), .val (.int (0 : Int32))] [(.int (0 : Int32)), (.int (0 : Int32)), (.ref a), (.ref a)]))
  refine own_iloadN X1049 hx (hb hby d7_24) rfl 25 rfl ?_
  refine own_callP X1049 hx hZ hown (own_w hw 107 rfl) (own_w hw 108 rfl) (own_w hw 109 rfl) (own_niS hZ (own_w hw 60 rfl) (own_w hw 59 rfl) rfl) (own_w hw 9 rfl) (own_w hw 110 rfl) (by decide) e1049 E1046 (rm12 l Z a0 hw [] a a1_ a2_ a3_ a4_ a5_ a6_ a7_ a8_ a9_ a10_ a11_ va vb vp T1046.heap n0 Z1046 ga hord ⟨E1046, F0_1046, F1_1046, F2_1046, F3_1046, F4_1046, F5_1046, F6_1046, F7_1046, F8_1046, F9_1046, F10_1046, F11_1046, F12_1046, F13_1046, V0_1046, V1_1046, V2_1046, V3_1046, V4_1046, V5_1046, V6_1046, V7_1046, V8_1046, V9_1046, V10_1046⟩ ) (by rw [hml]; rfl) pd_6 (argsL := [(.int (0 : Int32)), (.int (0 : Int32)), (.int (0 : Int32))]) rfl (rest := [(.ref a)]) rfl (hb hby d7_25) 1 (Nat.le_of_eq rfl) (by decide) (by decide) (by decide) (by decide) 28 rfl (fun T1051 L1051 v1051 X1051 hQ1051 => ?_)
  obtain ⟨rfl, N1051, e1051⟩ := hQ1051
  have N1052 := Fr.app N1050 N1051
  show own_Go p e below G (T1051.setTop (mkF m 28 #[.val (.ref a), .val (.int (0 : Int32))] [(.int (0 : Int32)), (.ref a)]))
  refine own_putF X1051 hx hZ hown (own_w hw 14 rfl) Via.refl e1051 F0_1046 E1046 (Or.inl (own_w hw 15 rfl)) (own_w hw 1 rfl) (ty := .int) (v' := (.int (0 : Int32))) (by decide) rfl rfl (hb hby d7_28) 31 rfl (fun T1053 h1053 X1053 e1053 W1053 => ?_)
  have N1054 := Fr.snoc X1053 N1052 ga
  have Z1055 : n0 ≤ h1053.size := by rw [W1053.size]; exact Z1046
  have E1056 := E1046.wr W1053
  have F1057 := F0_1046.same W1053
  have F1058 := F1_1046.other W1053 (Or.inr (sn_0 hw))
  have F1059 := F2_1046.other W1053 (Or.inr (sn_1 hw))
  have F1060 := F3_1046.other W1053 (Or.inr (sn_2 hw))
  have F1061 := F4_1046.other W1053 (Or.inr (sn_3 hw))
  have F1062 := F5_1046.other W1053 (Or.inr (sn_4 hw))
  have F1063 := F6_1046.other W1053 (Or.inr (sn_5 hw))
  have F1064 := F7_1046.other W1053 (Or.inr (sn_6 hw))
  have F1065 := F8_1046.other W1053 (Or.inr (sn_7 hw))
  have F1066 := F9_1046.other W1053 (Or.inr (sn_8 hw))
  have F1067 := F10_1046.other W1053 (Or.inr (sn_9 hw))
  have F1068 := F11_1046.other W1053 (Or.inr (sn_10 hw))
  have F1069 := F12_1046.other W1053 (Or.inr (sn_11 hw))
  have F1070 := F13_1046.other W1053 (Or.inr (sn_12 hw))
  have V1071 := V0_1046.other W1053 (Ne.symm (Nat.ne_of_lt (by omega)))
  have V1072 := V1_1046.other W1053 (Ne.symm (Nat.ne_of_lt (by omega)))
  have V1073 := V2_1046.other W1053 (Ne.symm (Nat.ne_of_lt (by omega)))
  have V1074 := V3_1046.other W1053 (Ne.symm (Nat.ne_of_lt (by omega)))
  have V1075 := V4_1046.other W1053 (Ne.symm (Nat.ne_of_lt (by omega)))
  have V1076 := V5_1046.other W1053 (Ne.symm (Nat.ne_of_lt (by omega)))
  have V1077 := V6_1046.other W1053 (Ne.symm (Nat.ne_of_lt (by omega)))
  have V1078 := V7_1046.other W1053 (Ne.symm (Nat.ne_of_lt (by omega)))
  have V1079 := V8_1046.other W1053 (Ne.symm (Nat.ne_of_lt (by omega)))
  have V1080 := V9_1046.other W1053 (Ne.symm (Nat.ne_of_lt (by omega)))
  have V1081 := V10_1046.other W1053 (Ne.symm (Nat.ne_of_lt (by omega)))
  refine own_return X1053 hx Bd.notSynchronized hG Bd.returns (hb hby d7_31) (by decide) (by decide) ?_
  rw [e1053]
  exact ⟨rfl, N1054, Z1055, ⟨E1056, F1057, F1058, F1059, F1060, F1061, F1062, F1063, F1064, F1065, F1066, F1067, F1068, F1069, F1070, V1071, V1072, V1073, V1074, V1075, V1076, V1077, V1078, V1079, V1080, V1081⟩⟩
def Q1 (Z : State) (a a1_ a2_ a3_ a4_ a5_ a6_ a7_ a8_ a9_ a10_ a11_ : Addr) (va vb vp : Int64) (h0 : Heap) (n0 : Nat) (v : Option Value) (h : Heap) (L : List Loc) : Prop := v = none ∧ Fr n0 L ∧ n0 ≤ h.size ∧ own_PE Z h a a1_ a2_ a3_ a4_ a5_ a6_ a7_ a8_ a9_ a10_ a11_ (0 : Int32) (1 : Int32) (1 : Int32) (List.replicate 127 (0 : Int32)) (List.replicate 127 (0 : Int32)) [(0 : Int32), (0 : Int32)] [(1 : Int32), (0 : Int32)] [(-1 : Int32), (0 : Int32)] [(-1 : Int32), (0 : Int32)] [(1 : Int32), (0 : Int32)] [va, (0 : Int64)] [vp, (0 : Int64)] [(((0 : Int64) + vp) + (0 : Int64)), (0 : Int64)]
theorem ef_rm1 (m : MethodId) (x0 : Addr) (x1 : Int32) (x2 : Int64) (x3 : Int64) : entryFrame m #[(.ref x0), (.int x1), (.long x2), (.long x3)] 7 = mkF m 0 #[.val (.ref x0), .val (.int x1), .val (.long x2), .second, .val (.long x3), .second, .unset] [] := by first | (simp [entryFrame, mkF, argsToLocals, Value.category, maxLocals]; done) | rfl
set_option maxRecDepth 65536 in
set_option maxHeartbeats 40000000 in
theorem rm1 (l : Launch) (Z : State) (a0 : Array Value) (hw : ∀ d ∈ tables_1, d.before a0 Z = true) (ws : List Jvm.Cond) (a a1_ a2_ a3_ a4_ a5_ a6_ a7_ a8_ a9_ a10_ a11_ : Addr) (va vb vp : Int64) (h0 : Heap) (n0 : Nat) (Z0 : n0 ≤ h0.size) (ga : n0 ≤ a) (hord : own_Or a a1_ a2_ a3_ a4_ a5_ a6_ a7_ a8_ a9_ a10_ a11_) (B : own_PE Z h0 a a1_ a2_ a3_ a4_ a5_ a6_ a7_ a8_ a9_ a10_ a11_ (-1 : Int32) (2 : Int32) (0 : Int32) (List.replicate 127 (0 : Int32)) (List.replicate 127 (0 : Int32)) [(0 : Int32), (0 : Int32)] [(1 : Int32), (0 : Int32)] [(0 : Int32), (0 : Int32)] [(0 : Int32), (0 : Int32)] [(0 : Int32), (0 : Int32)] [(0 : Int64), (0 : Int64)] [(0 : Int64), (0 : Int64)] [(0 : Int64), (0 : Int64)]) :
    MetFree l own_y4 (head1 (Jvm.Cond.code own_y4 prog_66_method_2_code 7 none :: ws) ({ frames := 4, cells := 0, slots := 0, locals := 57 } : Room)) (fun aR U => aR = #[(.ref a), (.int (0 : Int32)), (.long va), (.long vp)] ∧ Z.Warmed39 U.vm ∧ U.heap = h0) (fun _ _ _ _ _ => True) (fun _ U o U' => ∃ v L, o = .returned v ∧ Q1 Z a a1_ a2_ a3_ a4_ a5_ a6_ a7_ a8_ a9_ a10_ a11_ va vb vp h0 n0 v U'.heap L ∧ FrameEnd U o U' L ({ frames := 4, cells := 0, slots := 0, locals := 57 } : Room).cells ({ frames := 4, cells := 0, slots := 0, locals := 57 } : Room).slots) := by
  refine MetFree.of_bodySF pf_4 hisR ?_
  intro p e s m args below meth c s₁ Bd hml0 hP hK
  obtain ⟨rfl, hZ, hhE⟩ := hP
  have hx := Bd.exec
  have hby := Bd.bytes
  have hml : c.maxLocals = 7 := hml0
  have hown : s.vm.findClass "com/example/equitide/equitide/policy/backfilling/PlannedEnds" = some m.cls := findClass_of_methodNamed Bd.named
  have hnm := (name_of_methodNamed Bd.named Bd.method).1
  have X0 : Stand p l e ({ frames := 4, cells := 0, slots := 0, locals := 57 } : Room) s m #[(.ref a), (.int (0 : Int32)), (.long va), (.long vp)] below meth c s₁ [] 0 0 := Stand.of_body Bd
  have e0 : s₁.heap = h0 := by rw [← hhE, Bd.state]; rfl
  have N0 := Fr.nil n0
  show own_Go p e below (own_Post s (Q1 Z a a1_ a2_ a3_ a4_ a5_ a6_ a7_ a8_ a9_ a10_ a11_ va vb vp h0 n0) ({ frames := 4, cells := 0, slots := 0, locals := 57 } : Room).cells ({ frames := 4, cells := 0, slots := 0, locals := 57 } : Room).slots) (s₁.setTop (entryFrame m #[(.ref a), (.int (0 : Int32)), (.long va), (.long vp)] 7))
  rw [ef_rm1]
  generalize hG : own_Post s (Q1 Z a a1_ a2_ a3_ a4_ a5_ a6_ a7_ a8_ a9_ a10_ a11_ va vb vp h0 n0) ({ frames := 4, cells := 0, slots := 0, locals := 57 } : Room).cells ({ frames := 4, cells := 0, slots := 0, locals := 57 } : Room).slots = G
  obtain ⟨o1, o2, o3, o4, o5, o6, o7, o8, o9, o10, o11⟩ := id hord
  obtain ⟨E0, F0_0, F1_0, F2_0, F3_0, F4_0, F5_0, F6_0, F7_0, F8_0, F9_0, F10_0, F11_0, F12_0, F13_0, V0_0, V1_0, V2_0, V3_0, V4_0, V5_0, V6_0, V7_0, V8_0, V9_0, V10_0⟩ := B
  refine own_aloadN X0 hx (hb hby d4_0) rfl rfl 1 rfl ?_
  refine own_iloadN X0 hx (hb hby d4_1) rfl 2 rfl ?_
  refine own_callU X0 hx hZ hown (own_w hw 51 rfl) (own_w hw 52 rfl) (own_w hw 53 rfl) (own_w hw 55 rfl) (own_w hw 54 rfl) (own_w hw 9 rfl) (own_w hw 56 rfl) (by decide) e0 E0 (rm2 l Z a0 hw [] a a1_ a2_ a3_ a4_ a5_ a6_ a7_ a8_ a9_ a10_ a11_ va vb vp h0 n0 Z0 ga hord ⟨E0, F0_0, F1_0, F2_0, F3_0, F4_0, F5_0, F6_0, F7_0, F8_0, F9_0, F10_0, F11_0, F12_0, F13_0, V0_0, V1_0, V2_0, V3_0, V4_0, V5_0, V6_0, V7_0, V8_0, V9_0, V10_0⟩ ) (by rw [hml]; rfl) pd_2 (argsL := [(.int (0 : Int32))]) rfl (rest := []) rfl (hb hby d4_2) 0 (Nat.le_of_eq rfl) (by decide) (by decide) (by decide) (by decide) 5 rfl (fun T877 L877 v877 X877 hQ877 => ?_)
  obtain ⟨rfl, N877, Z877, B877⟩ := hQ877
  have N878 := Fr.app N0 N877
  obtain ⟨E877, F0_877, F1_877, F2_877, F3_877, F4_877, F5_877, F6_877, F7_877, F8_877, F9_877, F10_877, F11_877, F12_877, F13_877, V0_877, V1_877, V2_877, V3_877, V4_877, V5_877, V6_877, V7_877, V8_877, V9_877, V10_877⟩ := B877
  show own_Go p e below G (T877.setTop (mkF m 5 #[.val (.ref a), .val (.int (0 : Int32)), .val (.long va), .second, .val (.long vp), .second, .unset] [(.int (0 : Int32))]))
  refine own_istore X877 hx (hb hby d4_5) #[.val (.ref a), .val (.int (0 : Int32)), .val (.long va), .second, .val (.long vp), .second, .val (.int (0 : Int32))] rfl 7 rfl ?_
  refine own_aloadN X877 hx (hb hby d4_7) rfl rfl 8 rfl ?_
  refine own_getF X877 hx hZ hown (own_w hw 40 rfl) Via.refl (rfl : T877.heap = T877.heap) F11_877 (hb hby d4_8) 11 rfl (fun T879 X879 e879 => ?_)
  refine own_iload X879 hx (hb hby d4_11) rfl 13 rfl ?_
  refine own_lloadN X879 hx (hb hby d4_13) rfl 14 rfl ?_
  refine own_lastore X879 hx hZ e879 V8_877 0 rfl (by simp) (hb hby d4_14) 15 rfl (fun T880 h880 X880 e880 W880 V880 => ?_)
  rw [show [(0 : Int64), (0 : Int64)].set 0 va = [va, (0 : Int64)] from rfl] at V880
  have N881 := Fr.snoc X880 N878 (by omega)
  have Z882 : n0 ≤ h880.size := by rw [W880.size]; exact Z877
  have E883 := E877.wr W880
  have F884 := F0_877.other W880 (Or.inl (Nat.ne_of_lt (by omega)))
  have F885 := F1_877.other W880 (Or.inl (Nat.ne_of_lt (by omega)))
  have F886 := F2_877.other W880 (Or.inl (Nat.ne_of_lt (by omega)))
  have F887 := F3_877.other W880 (Or.inl (Nat.ne_of_lt (by omega)))
  have F888 := F4_877.other W880 (Or.inl (Nat.ne_of_lt (by omega)))
  have F889 := F5_877.other W880 (Or.inl (Nat.ne_of_lt (by omega)))
  have F890 := F6_877.other W880 (Or.inl (Nat.ne_of_lt (by omega)))
  have F891 := F7_877.other W880 (Or.inl (Nat.ne_of_lt (by omega)))
  have F892 := F8_877.other W880 (Or.inl (Nat.ne_of_lt (by omega)))
  have F893 := F9_877.other W880 (Or.inl (Nat.ne_of_lt (by omega)))
  have F894 := F10_877.other W880 (Or.inl (Nat.ne_of_lt (by omega)))
  have F895 := F11_877.other W880 (Or.inl (Nat.ne_of_lt (by omega)))
  have F896 := F12_877.other W880 (Or.inl (Nat.ne_of_lt (by omega)))
  have F897 := F13_877.other W880 (Or.inl (Nat.ne_of_lt (by omega)))
  have V898 := V0_877.other W880 (Nat.ne_of_lt (by omega))
  have V899 := V1_877.other W880 (Nat.ne_of_lt (by omega))
  have V900 := V2_877.other W880 (Nat.ne_of_lt (by omega))
  have V901 := V3_877.other W880 (Nat.ne_of_lt (by omega))
  have V902 := V4_877.other W880 (Nat.ne_of_lt (by omega))
  have V903 := V5_877.other W880 (Nat.ne_of_lt (by omega))
  have V904 := V6_877.other W880 (Nat.ne_of_lt (by omega))
  have V905 := V7_877.other W880 (Nat.ne_of_lt (by omega))
  have V906 := V9_877.other W880 (Ne.symm (Nat.ne_of_lt (by omega)))
  have V907 := V10_877.other W880 (Ne.symm (Nat.ne_of_lt (by omega)))
  refine own_aloadN X880 hx (hb hby d4_15) rfl rfl 16 rfl ?_
  refine own_getF X880 hx hZ hown (own_w hw 42 rfl) Via.refl e880 F896 (hb hby d4_16) 19 rfl (fun T908 X908 e908 => ?_)
  refine own_iload X908 hx (hb hby d4_19) rfl 21 rfl ?_
  refine own_lload X908 hx (hb hby d4_21) rfl 23 rfl ?_
  refine own_lastore X908 hx hZ e908 V906 0 rfl (by simp) (hb hby d4_23) 24 rfl (fun T909 h909 X909 e909 W909 V909 => ?_)
  rw [show [(0 : Int64), (0 : Int64)].set 0 vp = [vp, (0 : Int64)] from rfl] at V909
  have N910 := Fr.snoc X909 N881 (by omega)
  have Z911 : n0 ≤ h909.size := by rw [W909.size]; exact Z882
  have E912 := E883.wr W909
  have F913 := F884.other W909 (Or.inl (Nat.ne_of_lt (by omega)))
  have F914 := F885.other W909 (Or.inl (Nat.ne_of_lt (by omega)))
  have F915 := F886.other W909 (Or.inl (Nat.ne_of_lt (by omega)))
  have F916 := F887.other W909 (Or.inl (Nat.ne_of_lt (by omega)))
  have F917 := F888.other W909 (Or.inl (Nat.ne_of_lt (by omega)))
  have F918 := F889.other W909 (Or.inl (Nat.ne_of_lt (by omega)))
  have F919 := F890.other W909 (Or.inl (Nat.ne_of_lt (by omega)))
  have F920 := F891.other W909 (Or.inl (Nat.ne_of_lt (by omega)))
  have F921 := F892.other W909 (Or.inl (Nat.ne_of_lt (by omega)))
  have F922 := F893.other W909 (Or.inl (Nat.ne_of_lt (by omega)))
  have F923 := F894.other W909 (Or.inl (Nat.ne_of_lt (by omega)))
  have F924 := F895.other W909 (Or.inl (Nat.ne_of_lt (by omega)))
  have F925 := F896.other W909 (Or.inl (Nat.ne_of_lt (by omega)))
  have F926 := F897.other W909 (Or.inl (Nat.ne_of_lt (by omega)))
  have V927 := V898.other W909 (Nat.ne_of_lt (by omega))
  have V928 := V899.other W909 (Nat.ne_of_lt (by omega))
  have V929 := V900.other W909 (Nat.ne_of_lt (by omega))
  have V930 := V901.other W909 (Nat.ne_of_lt (by omega))
  have V931 := V902.other W909 (Nat.ne_of_lt (by omega))
  have V932 := V903.other W909 (Nat.ne_of_lt (by omega))
  have V933 := V904.other W909 (Nat.ne_of_lt (by omega))
  have V934 := V905.other W909 (Nat.ne_of_lt (by omega))
  have V935 := V907.other W909 (Ne.symm (Nat.ne_of_lt (by omega)))
  have V936 := V880.other W909 (Nat.ne_of_lt (by omega))
  refine own_aloadN X909 hx (hb hby d4_24) rfl rfl 25 rfl ?_
  refine own_iload X909 hx (hb hby d4_25) rfl 27 rfl ?_
  refine own_callU X909 hx hZ hown (own_w hw 62 rfl) (own_w hw 63 rfl) (own_w hw 64 rfl) (own_w hw 66 rfl) (own_w hw 65 rfl) (own_w hw 9 rfl) (own_w hw 67 rfl) (by decide) e909 E912 (rm4 l Z a0 hw [] a a1_ a2_ a3_ a4_ a5_ a6_ a7_ a8_ a9_ a10_ a11_ va vb vp h909 n0 Z911 ga hord ⟨E912, F913, F914, F915, F916, F917, F918, F919, F920, F921, F922, F923, F924, F925, F926, V927, V928, V929, V930, V931, V932, V933, V934, V936, V909, V935⟩ ) (by rw [hml]; rfl) pd_5 (argsL := [(.int (0 : Int32))]) rfl (rest := []) rfl (hb hby d4_27) 0 (Nat.le_of_eq rfl) (by decide) (by decide) (by decide) (by decide) 30 rfl (fun T1082 L1082 v1082 X1082 hQ1082 => ?_)
  obtain ⟨rfl, N1082, Z1082, B1082⟩ := hQ1082
  have N1083 := Fr.app N910 N1082
  obtain ⟨E1082, F0_1082, F1_1082, F2_1082, F3_1082, F4_1082, F5_1082, F6_1082, F7_1082, F8_1082, F9_1082, F10_1082, F11_1082, F12_1082, F13_1082, V0_1082, V1_1082, V2_1082, V3_1082, V4_1082, V5_1082, V6_1082, V7_1082, V8_1082, V9_1082, V10_1082⟩ := B1082
  show own_Go p e below G (T1082.setTop (mkF m 30 #[.val (.ref a), .val (.int (0 : Int32)), .val (.long va), .second, .val (.long vp), .second, .val (.int (0 : Int32))] []))
  refine own_return X1082 hx Bd.notSynchronized hG Bd.returns (hb hby d4_30) (by decide) (by decide) ?_
  skip
  exact ⟨rfl, N1083, Z1082, ⟨E1082, F0_1082, F1_1082, F2_1082, F3_1082, F4_1082, F5_1082, F6_1082, F7_1082, F8_1082, F9_1082, F10_1082, F11_1082, F12_1082, F13_1082, V0_1082, V1_1082, V2_1082, V3_1082, V4_1082, V5_1082, V6_1082, V7_1082, V8_1082, V9_1082, V10_1082⟩⟩
def Q15 (Z : State) (a a1_ a2_ a3_ a4_ a5_ a6_ a7_ a8_ a9_ a10_ a11_ : Addr) (va vb vp : Int64) (h0 : Heap) (n0 : Nat) (v : Option Value) (h : Heap) (L : List Loc) : Prop := v = some (.int (1 : Int32)) ∧ Fr n0 L ∧ n0 ≤ h.size ∧ own_PE Z h a a1_ a2_ a3_ a4_ a5_ a6_ a7_ a8_ a9_ a10_ a11_ (0 : Int32) (0 : Int32) (1 : Int32) (List.replicate 127 (0 : Int32)) (List.replicate 127 (0 : Int32)) [(0 : Int32), (0 : Int32)] [(1 : Int32), (0 : Int32)] [(-1 : Int32), (-1 : Int32)] [(-1 : Int32), (-1 : Int32)] [(1 : Int32), (0 : Int32)] [va, (0 : Int64)] [vp, (0 : Int64)] [(((0 : Int64) + vp) + (0 : Int64)), (0 : Int64)]
theorem ef_rm15 (m : MethodId) (x0 : Addr) : entryFrame m #[(.ref x0)] 2 = mkF m 0 #[.val (.ref x0), .unset] [] := by first | (simp [entryFrame, mkF, argsToLocals, Value.category, maxLocals]; done) | rfl
set_option maxRecDepth 65536 in
set_option maxHeartbeats 40000000 in
theorem rm15 (l : Launch) (Z : State) (a0 : Array Value) (hw : ∀ d ∈ tables_1, d.before a0 Z = true) (ws : List Jvm.Cond) (a a1_ a2_ a3_ a4_ a5_ a6_ a7_ a8_ a9_ a10_ a11_ : Addr) (va vb vp : Int64) (h0 : Heap) (n0 : Nat) (Z0 : n0 ≤ h0.size) (ga : n0 ≤ a) (hord : own_Or a a1_ a2_ a3_ a4_ a5_ a6_ a7_ a8_ a9_ a10_ a11_) (B : own_PE Z h0 a a1_ a2_ a3_ a4_ a5_ a6_ a7_ a8_ a9_ a10_ a11_ (0 : Int32) (1 : Int32) (1 : Int32) (List.replicate 127 (0 : Int32)) (List.replicate 127 (0 : Int32)) [(0 : Int32), (0 : Int32)] [(1 : Int32), (0 : Int32)] [(-1 : Int32), (0 : Int32)] [(-1 : Int32), (0 : Int32)] [(1 : Int32), (0 : Int32)] [va, (0 : Int64)] [vp, (0 : Int64)] [(((0 : Int64) + vp) + (0 : Int64)), (0 : Int64)]) (hc : va < vb) :
    MetFree l own_y6 (head1 (Jvm.Cond.code own_y6 prog_49_method_11_code 2 (some .int) :: ws) ({ frames := 0, cells := 0, slots := 0, locals := 0 } : Room)) (fun aR U => aR = #[(.ref a)] ∧ Z.Warmed39 U.vm ∧ U.heap = h0) (fun _ _ _ _ _ => True) (fun _ U o U' => ∃ v L, o = .returned v ∧ Q15 Z a a1_ a2_ a3_ a4_ a5_ a6_ a7_ a8_ a9_ a10_ a11_ va vb vp h0 n0 v U'.heap L ∧ FrameEnd U o U' L ({ frames := 0, cells := 0, slots := 0, locals := 0 } : Room).cells ({ frames := 0, cells := 0, slots := 0, locals := 0 } : Room).slots) := by
  refine MetFree.of_bodySF pf_6 hisR ?_
  intro p e s m args below meth c s₁ Bd hml0 hP hK
  obtain ⟨rfl, hZ, hhE⟩ := hP
  have hx := Bd.exec
  have hby := Bd.bytes
  have hml : c.maxLocals = 2 := hml0
  have hown : s.vm.findClass "com/example/equitide/equitide/policy/backfilling/AvlTree" = some m.cls := findClass_of_methodNamed Bd.named
  have hnm := (name_of_methodNamed Bd.named Bd.method).1
  have X0 : Stand p l e ({ frames := 0, cells := 0, slots := 0, locals := 0 } : Room) s m #[(.ref a)] below meth c s₁ [] 0 0 := Stand.of_body Bd
  have e0 : s₁.heap = h0 := by rw [← hhE, Bd.state]; rfl
  have N0 := Fr.nil n0
  show own_Go p e below (own_Post s (Q15 Z a a1_ a2_ a3_ a4_ a5_ a6_ a7_ a8_ a9_ a10_ a11_ va vb vp h0 n0) ({ frames := 0, cells := 0, slots := 0, locals := 0 } : Room).cells ({ frames := 0, cells := 0, slots := 0, locals := 0 } : Room).slots) (s₁.setTop (entryFrame m #[(.ref a)] 2))
  rw [ef_rm15]
  generalize hG : own_Post s (Q15 Z a a1_ a2_ a3_ a4_ a5_ a6_ a7_ a8_ a9_ a10_ a11_ va vb vp h0 n0) ({ frames := 0, cells := 0, slots := 0, locals := 0 } : Room).cells ({ frames := 0, cells := 0, slots := 0, locals := 0 } : Room).slots = G
  obtain ⟨o1, o2, o3, o4, o5, o6, o7, o8, o9, o10, o11⟩ := id hord
  obtain ⟨E0, F0_0, F1_0, F2_0, F3_0, F4_0, F5_0, F6_0, F7_0, F8_0, F9_0, F10_0, F11_0, F12_0, F13_0, V0_0, V1_0, V2_0, V3_0, V4_0, V5_0, V6_0, V7_0, V8_0, V9_0, V10_0⟩ := B
  refine own_aloadN X0 hx (hb hby d6_0) rfl rfl 1 rfl ?_
  refine own_getF X0 hx hZ hown (own_w hw 23 rfl) Via.refl e0 F6_0 (hb hby d6_1) 4 rfl (fun T1086 X1086 e1086 => ?_)
  refine own_aloadN X1086 hx (hb hby d6_4) rfl rfl 5 rfl ?_
  refine own_dup X1086 hx (hb hby d6_5) rfl 6 rfl ?_
  refine own_getF X1086 hx hZ hown (own_w hw 25 rfl) Via.refl e1086 F1_0 (hb hby d6_6) 9 rfl (fun T1087 X1087 e1087 => ?_)
  refine own_iconst X1087 hx (hb hby d6_9) (1 : Int32) rfl 10 rfl ?_
  refine own_isub X1087 hx (hb hby d6_10) 11 rfl ?_
  show own_Go p e below G (T1087.setTop (mkF m 11 #[.val (.ref a), .unset] [(.int (0 : Int32)), (.ref a), (.ref a4_)]))
  refine own_dupX1 X1087 hx (hb hby d6_11) rfl rfl 12 rfl ?_
  refine own_putF X1087 hx hZ hown (own_w hw 25 rfl) Via.refl e1087 F1_0 E0 (Or.inl (own_w hw 26 rfl)) (own_w hw 1 rfl) (ty := .int) (v' := (.int (0 : Int32))) (by decide) rfl rfl (hb hby d6_12) 15 rfl (fun T1088 h1088 X1088 e1088 W1088 => ?_)
  have N1089 := Fr.snoc X1088 N0 ga
  have Z1090 : n0 ≤ h1088.size := by rw [W1088.size]; exact Z0
  have E1091 := E0.wr W1088
  have F1092 := F0_0.other W1088 (Or.inr (sn_65 hw))
  have F1093 := F1_0.same W1088
  have F1094 := F2_0.other W1088 (Or.inr (sn_66 hw))
  have F1095 := F3_0.other W1088 (Or.inr (sn_67 hw))
  have F1096 := F4_0.other W1088 (Or.inr (sn_68 hw))
  have F1097 := F5_0.other W1088 (Or.inr (sn_69 hw))
  have F1098 := F6_0.other W1088 (Or.inr (sn_70 hw))
  have F1099 := F7_0.other W1088 (Or.inr (sn_71 hw))
  have F1100 := F8_0.other W1088 (Or.inr (sn_72 hw))
  have F1101 := F9_0.other W1088 (Or.inr (sn_73 hw))
  have F1102 := F10_0.other W1088 (Or.inr (sn_74 hw))
  have F1103 := F11_0.other W1088 (Or.inr (sn_75 hw))
  have F1104 := F12_0.other W1088 (Or.inr (sn_76 hw))
  have F1105 := F13_0.other W1088 (Or.inr (sn_77 hw))
  have V1106 := V0_0.other W1088 (Ne.symm (Nat.ne_of_lt (by omega)))
  have V1107 := V1_0.other W1088 (Ne.symm (Nat.ne_of_lt (by omega)))
  have V1108 := V2_0.other W1088 (Ne.symm (Nat.ne_of_lt (by omega)))
  have V1109 := V3_0.other W1088 (Ne.symm (Nat.ne_of_lt (by omega)))
  have V1110 := V4_0.other W1088 (Ne.symm (Nat.ne_of_lt (by omega)))
  have V1111 := V5_0.other W1088 (Ne.symm (Nat.ne_of_lt (by omega)))
  have V1112 := V6_0.other W1088 (Ne.symm (Nat.ne_of_lt (by omega)))
  have V1113 := V7_0.other W1088 (Ne.symm (Nat.ne_of_lt (by omega)))
  have V1114 := V8_0.other W1088 (Ne.symm (Nat.ne_of_lt (by omega)))
  have V1115 := V9_0.other W1088 (Ne.symm (Nat.ne_of_lt (by omega)))
  have V1116 := V10_0.other W1088 (Ne.symm (Nat.ne_of_lt (by omega)))
  refine own_iaload X1088 hx hZ e1088 V1109 0 rfl (1 : Int32) rfl (hb hby d6_15) 16 rfl ?_
  refine own_istoreN X1088 hx (hb hby d6_16) #[.val (.ref a), .val (.int (1 : Int32))] rfl 17 rfl ?_
  refine own_aloadN X1088 hx (hb hby d6_17) rfl rfl 18 rfl ?_
  refine own_getF X1088 hx hZ hown (own_w hw 27 rfl) Via.refl e1088 F1099 (hb hby d6_18) 21 rfl (fun T1117 X1117 e1117 => ?_)
  refine own_iloadN X1117 hx (hb hby d6_21) rfl 22 rfl ?_
  refine own_iconst X1117 hx (hb hby d6_22) (-1 : Int32) rfl 23 rfl ?_
  refine own_iastore X1117 hx hZ e1117 V1110 1 rfl (by simp) (hb hby d6_23) 24 rfl (fun T1118 h1118 X1118 e1118 W1118 V1118 => ?_)
  rw [show [(-1 : Int32), (0 : Int32)].set 1 (-1 : Int32) = [(-1 : Int32), (-1 : Int32)] from rfl] at V1118
  have N1119 := Fr.snoc X1118 N1089 (by omega)
  have Z1120 : n0 ≤ h1118.size := by rw [W1118.size]; exact Z1090
  have E1121 := E1091.wr W1118
  have F1122 := F1092.other W1118 (Or.inl (Nat.ne_of_lt (by omega)))
  have F1123 := F1093.other W1118 (Or.inl (Nat.ne_of_lt (by omega)))
  have F1124 := F1094.other W1118 (Or.inl (Nat.ne_of_lt (by omega)))
  have F1125 := F1095.other W1118 (Or.inl (Nat.ne_of_lt (by omega)))
  have F1126 := F1096.other W1118 (Or.inl (Nat.ne_of_lt (by omega)))
  have F1127 := F1097.other W1118 (Or.inl (Nat.ne_of_lt (by omega)))
  have F1128 := F1098.other W1118 (Or.inl (Nat.ne_of_lt (by omega)))
  have F1129 := F1099.other W1118 (Or.inl (Nat.ne_of_lt (by omega)))
  have F1130 := F1100.other W1118 (Or.inl (Nat.ne_of_lt (by omega)))
  have F1131 := F1101.other W1118 (Or.inl (Nat.ne_of_lt (by omega)))
  have F1132 := F1102.other W1118 (Or.inl (Nat.ne_of_lt (by omega)))
  have F1133 := F1103.other W1118 (Or.inl (Nat.ne_of_lt (by omega)))
  have F1134 := F1104.other W1118 (Or.inl (Nat.ne_of_lt (by omega)))
  have F1135 := F1105.other W1118 (Or.inl (Nat.ne_of_lt (by omega)))
  have V1136 := V1106.other W1118 (Nat.ne_of_lt (by omega))
  have V1137 := V1107.other W1118 (Nat.ne_of_lt (by omega))
  have V1138 := V1108.other W1118 (Nat.ne_of_lt (by omega))
  have V1139 := V1109.other W1118 (Nat.ne_of_lt (by omega))
  have V1140 := V1111.other W1118 (Ne.symm (Nat.ne_of_lt (by omega)))
  have V1141 := V1112.other W1118 (Ne.symm (Nat.ne_of_lt (by omega)))
  have V1142 := V1113.other W1118 (Ne.symm (Nat.ne_of_lt (by omega)))
  have V1143 := V1114.other W1118 (Ne.symm (Nat.ne_of_lt (by omega)))
  have V1144 := V1115.other W1118 (Ne.symm (Nat.ne_of_lt (by omega)))
  have V1145 := V1116.other W1118 (Ne.symm (Nat.ne_of_lt (by omega)))
  refine own_aloadN X1118 hx (hb hby d6_24) rfl rfl 25 rfl ?_
  refine own_getF X1118 hx hZ hown (own_w hw 29 rfl) Via.refl e1118 F1130 (hb hby d6_25) 28 rfl (fun T1146 X1146 e1146 => ?_)
  refine own_iloadN X1146 hx (hb hby d6_28) rfl 29 rfl ?_
  refine own_iconst X1146 hx (hb hby d6_29) (-1 : Int32) rfl 30 rfl ?_
  refine own_iastore X1146 hx hZ e1146 V1140 1 rfl (by simp) (hb hby d6_30) 31 rfl (fun T1147 h1147 X1147 e1147 W1147 V1147 => ?_)
  rw [show [(-1 : Int32), (0 : Int32)].set 1 (-1 : Int32) = [(-1 : Int32), (-1 : Int32)] from rfl] at V1147
  have N1148 := Fr.snoc X1147 N1119 (by omega)
  have Z1149 : n0 ≤ h1147.size := by rw [W1147.size]; exact Z1120
  have E1150 := E1121.wr W1147
  have F1151 := F1122.other W1147 (Or.inl (Nat.ne_of_lt (by omega)))
  have F1152 := F1123.other W1147 (Or.inl (Nat.ne_of_lt (by omega)))
  have F1153 := F1124.other W1147 (Or.inl (Nat.ne_of_lt (by omega)))
  have F1154 := F1125.other W1147 (Or.inl (Nat.ne_of_lt (by omega)))
  have F1155 := F1126.other W1147 (Or.inl (Nat.ne_of_lt (by omega)))
  have F1156 := F1127.other W1147 (Or.inl (Nat.ne_of_lt (by omega)))
  have F1157 := F1128.other W1147 (Or.inl (Nat.ne_of_lt (by omega)))
  have F1158 := F1129.other W1147 (Or.inl (Nat.ne_of_lt (by omega)))
  have F1159 := F1130.other W1147 (Or.inl (Nat.ne_of_lt (by omega)))
  have F1160 := F1131.other W1147 (Or.inl (Nat.ne_of_lt (by omega)))
  have F1161 := F1132.other W1147 (Or.inl (Nat.ne_of_lt (by omega)))
  have F1162 := F1133.other W1147 (Or.inl (Nat.ne_of_lt (by omega)))
  have F1163 := F1134.other W1147 (Or.inl (Nat.ne_of_lt (by omega)))
  have F1164 := F1135.other W1147 (Or.inl (Nat.ne_of_lt (by omega)))
  have V1165 := V1136.other W1147 (Nat.ne_of_lt (by omega))
  have V1166 := V1137.other W1147 (Nat.ne_of_lt (by omega))
  have V1167 := V1138.other W1147 (Nat.ne_of_lt (by omega))
  have V1168 := V1139.other W1147 (Nat.ne_of_lt (by omega))
  have V1169 := V1141.other W1147 (Ne.symm (Nat.ne_of_lt (by omega)))
  have V1170 := V1142.other W1147 (Ne.symm (Nat.ne_of_lt (by omega)))
  have V1171 := V1143.other W1147 (Ne.symm (Nat.ne_of_lt (by omega)))
  have V1172 := V1144.other W1147 (Ne.symm (Nat.ne_of_lt (by omega)))
  have V1173 := V1145.other W1147 (Ne.symm (Nat.ne_of_lt (by omega)))
  have V1174 := V1118.other W1147 (Nat.ne_of_lt (by omega))
  refine own_iloadN X1147 hx (hb hby d6_31) rfl 32 rfl ?_
  refine own_ireturn X1147 hx Bd.notSynchronized hG Bd.returns (hb hby d6_32) (by decide) (by decide) ?_
  rw [e1147]
  exact ⟨rfl, N1148, Z1149, ⟨E1150, F1151, F1152, F1153, F1154, F1155, F1156, F1157, F1158, F1159, F1160, F1161, F1162, F1163, F1164, V1165, V1166, V1167, V1168, V1174, V1147, V1169, V1170, V1171, V1172, V1173⟩⟩
def Q14 (Z : State) (a a1_ a2_ a3_ a4_ a5_ a6_ a7_ a8_ a9_ a10_ a11_ : Addr) (va vb vp : Int64) (h0 : Heap) (n0 : Nat) (v : Option Value) (h : Heap) (L : List Loc) : Prop := v = some (.int (1 : Int32)) ∧ Fr n0 L ∧ n0 ≤ h.size ∧ own_PE Z h a a1_ a2_ a3_ a4_ a5_ a6_ a7_ a8_ a9_ a10_ a11_ (0 : Int32) (0 : Int32) (1 : Int32) (List.replicate 127 (0 : Int32)) (List.replicate 127 (0 : Int32)) [(0 : Int32), (1 : Int32)] [(1 : Int32), (0 : Int32)] [(-1 : Int32), (-1 : Int32)] [(-1 : Int32), (-1 : Int32)] [(1 : Int32), (0 : Int32)] [va, (0 : Int64)] [vp, (0 : Int64)] [(((0 : Int64) + vp) + (0 : Int64)), (0 : Int64)]
theorem ef_rm14 (m : MethodId) (x0 : Addr) (x1 : Int32) : entryFrame m #[(.ref x0), (.int x1)] 3 = mkF m 0 #[.val (.ref x0), .val (.int x1), .unset] [] := by first | (simp [entryFrame, mkF, argsToLocals, Value.category, maxLocals]; done) | rfl
set_option maxRecDepth 65536 in
set_option maxHeartbeats 40000000 in
theorem rm14 (l : Launch) (Z : State) (a0 : Array Value) (hw : ∀ d ∈ tables_1, d.before a0 Z = true) (ws : List Jvm.Cond) (a a1_ a2_ a3_ a4_ a5_ a6_ a7_ a8_ a9_ a10_ a11_ : Addr) (va vb vp : Int64) (h0 : Heap) (n0 : Nat) (Z0 : n0 ≤ h0.size) (ga : n0 ≤ a) (hord : own_Or a a1_ a2_ a3_ a4_ a5_ a6_ a7_ a8_ a9_ a10_ a11_) (B : own_PE Z h0 a a1_ a2_ a3_ a4_ a5_ a6_ a7_ a8_ a9_ a10_ a11_ (0 : Int32) (1 : Int32) (1 : Int32) (List.replicate 127 (0 : Int32)) (List.replicate 127 (0 : Int32)) [(0 : Int32), (0 : Int32)] [(1 : Int32), (0 : Int32)] [(-1 : Int32), (0 : Int32)] [(-1 : Int32), (0 : Int32)] [(1 : Int32), (0 : Int32)] [va, (0 : Int64)] [vp, (0 : Int64)] [(((0 : Int64) + vp) + (0 : Int64)), (0 : Int64)]) (hc : va < vb) :
    MetFree l own_y5 (head1 (Jvm.Cond.code own_y5 prog_49_method_10_code 3 (some .int) :: ws) ({ frames := 1, cells := 0, slots := 0, locals := 13 } : Room)) (fun aR U => aR = #[(.ref a), (.int (1 : Int32))] ∧ Z.Warmed39 U.vm ∧ U.heap = h0) (fun _ _ _ _ _ => True) (fun _ U o U' => ∃ v L, o = .returned v ∧ Q14 Z a a1_ a2_ a3_ a4_ a5_ a6_ a7_ a8_ a9_ a10_ a11_ va vb vp h0 n0 v U'.heap L ∧ FrameEnd U o U' L ({ frames := 1, cells := 0, slots := 0, locals := 13 } : Room).cells ({ frames := 1, cells := 0, slots := 0, locals := 13 } : Room).slots) := by
  refine MetFree.of_bodySF pf_5 hisR ?_
  intro p e s m args below meth c s₁ Bd hml0 hP hK
  obtain ⟨rfl, hZ, hhE⟩ := hP
  have hx := Bd.exec
  have hby := Bd.bytes
  have hml : c.maxLocals = 3 := hml0
  have hown : s.vm.findClass "com/example/equitide/equitide/policy/backfilling/AvlTree" = some m.cls := findClass_of_methodNamed Bd.named
  have hnm := (name_of_methodNamed Bd.named Bd.method).1
  have X0 : Stand p l e ({ frames := 1, cells := 0, slots := 0, locals := 13 } : Room) s m #[(.ref a), (.int (1 : Int32))] below meth c s₁ [] 0 0 := Stand.of_body Bd
  have e0 : s₁.heap = h0 := by rw [← hhE, Bd.state]; rfl
  have N0 := Fr.nil n0
  show own_Go p e below (own_Post s (Q14 Z a a1_ a2_ a3_ a4_ a5_ a6_ a7_ a8_ a9_ a10_ a11_ va vb vp h0 n0) ({ frames := 1, cells := 0, slots := 0, locals := 13 } : Room).cells ({ frames := 1, cells := 0, slots := 0, locals := 13 } : Room).slots) (s₁.setTop (entryFrame m #[(.ref a), (.int (1 : Int32))] 3))
  rw [ef_rm14]
  generalize hG : own_Post s (Q14 Z a a1_ a2_ a3_ a4_ a5_ a6_ a7_ a8_ a9_ a10_ a11_ va vb vp h0 n0) ({ frames := 1, cells := 0, slots := 0, locals := 13 } : Room).cells ({ frames := 1, cells := 0, slots := 0, locals := 13 } : Room).slots = G
  obtain ⟨o1, o2, o3, o4, o5, o6, o7, o8, o9, o10, o11⟩ := id hord
  obtain ⟨E0, F0_0, F1_0, F2_0, F3_0, F4_0, F5_0, F6_0, F7_0, F8_0, F9_0, F10_0, F11_0, F12_0, F13_0, V0_0, V1_0, V2_0, V3_0, V4_0, V5_0, V6_0, V7_0, V8_0, V9_0, V10_0⟩ := B
  refine own_aloadN X0 hx (hb hby d5_0) rfl rfl 1 rfl ?_
  refine own_callV X0 hx hZ hown (own_w hw 57 rfl) (own_w hw 58 rfl) (own_w hw 60 rfl) (notFace_of_selects (args := #[]) (mvT hZ (own_w hw 60 rfl))) (own_w hw 59 rfl) (own_w hw 9 rfl) (own_w hw 61 rfl) (by decide) e0 E0 (rm15 l Z a0 hw [] a a1_ a2_ a3_ a4_ a5_ a6_ a7_ a8_ a9_ a10_ a11_ va vb vp h0 n0 Z0 ga hord ⟨E0, F0_0, F1_0, F2_0, F3_0, F4_0, F5_0, F6_0, F7_0, F8_0, F9_0, F10_0, F11_0, F12_0, F13_0, V0_0, V1_0, V2_0, V3_0, V4_0, V5_0, V6_0, V7_0, V8_0, V9_0, V10_0⟩ hc) (by rw [hml]; rfl) pd_1 (argsL := []) rfl (rest := []) rfl (hb hby d5_1) 0 (Nat.le_of_eq rfl) (by decide) (by decide) (by decide) (by decide) 4 rfl (fun T1175 L1175 v1175 X1175 hQ1175 => ?_)
  obtain ⟨rfl, N1175, Z1175, B1175⟩ := hQ1175
  have N1176 := Fr.app N0 N1175
  obtain ⟨E1175, F0_1175, F1_1175, F2_1175, F3_1175, F4_1175, F5_1175, F6_1175, F7_1175, F8_1175, F9_1175, F10_1175, F11_1175, F12_1175, F13_1175, V0_1175, V1_1175, V2_1175, V3_1175, V4_1175, V5_1175, V6_1175, V7_1175, V8_1175, V9_1175, V10_1175⟩ := B1175
  show own_Go p e below G (T1175.setTop (mkF m 4 #[.val (.ref a), .val (.int (1 : Int32)), .unset] [(.int (1 : Int32))]))
  refine own_istoreN X1175 hx (hb hby d5_4) #[.val (.ref a), .val (.int (1 : Int32)), .val (.int (1 : Int32))] rfl 5 rfl ?_
  refine own_aloadN X1175 hx (hb hby d5_5) rfl rfl 6 rfl ?_
  refine own_getF X1175 hx hZ hown (own_w hw 21 rfl) Via.refl (rfl : T1175.heap = T1175.heap) F5_1175 (hb hby d5_6) 9 rfl (fun T1177 X1177 e1177 => ?_)
  refine own_iloadN X1177 hx (hb hby d5_9) rfl 10 rfl ?_
  refine own_iloadN X1177 hx (hb hby d5_10) rfl 11 rfl ?_
  refine own_iastore X1177 hx hZ e1177 V2_1175 1 rfl (by simp) (hb hby d5_11) 12 rfl (fun T1178 h1178 X1178 e1178 W1178 V1178 => ?_)
  rw [show [(0 : Int32), (0 : Int32)].set 1 (1 : Int32) = [(0 : Int32), (1 : Int32)] from rfl] at V1178
  have N1179 := Fr.snoc X1178 N1176 (by omega)
  have Z1180 : n0 ≤ h1178.size := by rw [W1178.size]; exact Z1175
  have E1181 := E1175.wr W1178
  have F1182 := F0_1175.other W1178 (Or.inl (Nat.ne_of_lt (by omega)))
  have F1183 := F1_1175.other W1178 (Or.inl (Nat.ne_of_lt (by omega)))
  have F1184 := F2_1175.other W1178 (Or.inl (Nat.ne_of_lt (by omega)))
  have F1185 := F3_1175.other W1178 (Or.inl (Nat.ne_of_lt (by omega)))
  have F1186 := F4_1175.other W1178 (Or.inl (Nat.ne_of_lt (by omega)))
  have F1187 := F5_1175.other W1178 (Or.inl (Nat.ne_of_lt (by omega)))
  have F1188 := F6_1175.other W1178 (Or.inl (Nat.ne_of_lt (by omega)))
  have F1189 := F7_1175.other W1178 (Or.inl (Nat.ne_of_lt (by omega)))
  have F1190 := F8_1175.other W1178 (Or.inl (Nat.ne_of_lt (by omega)))
  have F1191 := F9_1175.other W1178 (Or.inl (Nat.ne_of_lt (by omega)))
  have F1192 := F10_1175.other W1178 (Or.inl (Nat.ne_of_lt (by omega)))
  have F1193 := F11_1175.other W1178 (Or.inl (Nat.ne_of_lt (by omega)))
  have F1194 := F12_1175.other W1178 (Or.inl (Nat.ne_of_lt (by omega)))
  have F1195 := F13_1175.other W1178 (Or.inl (Nat.ne_of_lt (by omega)))
  have V1196 := V0_1175.other W1178 (Nat.ne_of_lt (by omega))
  have V1197 := V1_1175.other W1178 (Nat.ne_of_lt (by omega))
  have V1198 := V3_1175.other W1178 (Ne.symm (Nat.ne_of_lt (by omega)))
  have V1199 := V4_1175.other W1178 (Ne.symm (Nat.ne_of_lt (by omega)))
  have V1200 := V5_1175.other W1178 (Ne.symm (Nat.ne_of_lt (by omega)))
  have V1201 := V6_1175.other W1178 (Ne.symm (Nat.ne_of_lt (by omega)))
  have V1202 := V7_1175.other W1178 (Ne.symm (Nat.ne_of_lt (by omega)))
  have V1203 := V8_1175.other W1178 (Ne.symm (Nat.ne_of_lt (by omega)))
  have V1204 := V9_1175.other W1178 (Ne.symm (Nat.ne_of_lt (by omega)))
  have V1205 := V10_1175.other W1178 (Ne.symm (Nat.ne_of_lt (by omega)))
  refine own_iloadN X1178 hx (hb hby d5_12) rfl 13 rfl ?_
  refine own_ireturn X1178 hx Bd.notSynchronized hG Bd.returns (hb hby d5_13) (by decide) (by decide) ?_
  rw [e1178]
  exact ⟨rfl, N1179, Z1180, ⟨E1181, F1182, F1183, F1184, F1185, F1186, F1187, F1188, F1189, F1190, F1191, F1192, F1193, F1194, F1195, V1196, V1197, V1178, V1198, V1199, V1200, V1201, V1202, V1203, V1204, V1205⟩⟩
def Q18 (Z : State) (a a1_ a2_ a3_ a4_ a5_ a6_ a7_ a8_ a9_ a10_ a11_ : Addr) (va vb vp : Int64) (h0 : Heap) (n0 : Nat) (v : Option Value) (h : Heap) (L : List Loc) : Prop := v = some (.int (0 : Int32)) ∧ Fr n0 L ∧ h = h0
theorem ef_rm18 (m : MethodId) (x0 : Addr) (x1 : Int32) : entryFrame m #[(.ref x0), (.int x1)] 2 = mkF m 0 #[.val (.ref x0), .val (.int x1)] [] := by first | (simp [entryFrame, mkF, argsToLocals, Value.category, maxLocals]; done) | rfl
set_option maxRecDepth 65536 in
set_option maxHeartbeats 40000000 in
theorem rm18 (l : Launch) (Z : State) (a0 : Array Value) (hw : ∀ d ∈ tables_1, d.before a0 Z = true) (ws : List Jvm.Cond) (a a1_ a2_ a3_ a4_ a5_ a6_ a7_ a8_ a9_ a10_ a11_ : Addr) (va vb vp : Int64) (h0 : Heap) (n0 : Nat) (Z0 : n0 ≤ h0.size) (ga : n0 ≤ a) (hord : own_Or a a1_ a2_ a3_ a4_ a5_ a6_ a7_ a8_ a9_ a10_ a11_) (B : own_PE Z h0 a a1_ a2_ a3_ a4_ a5_ a6_ a7_ a8_ a9_ a10_ a11_ (0 : Int32) (0 : Int32) (2 : Int32) (List.replicate 127 (0 : Int32)) (List.replicate 127 (0 : Int32)) [(0 : Int32), (1 : Int32)] [(1 : Int32), (0 : Int32)] [(-1 : Int32), (-1 : Int32)] [(-1 : Int32), (-1 : Int32)] [(1 : Int32), (0 : Int32)] [va, vb] [vp, vp] [(((0 : Int64) + vp) + (0 : Int64)), (0 : Int64)]) (hc : va < vb) :
    MetFree l own_y9 (head1 (Jvm.Cond.code own_y9 prog_49_method_28_code 2 (some .int) :: ws) ({ frames := 0, cells := 0, slots := 0, locals := 0 } : Room)) (fun aR U => aR = #[(.ref a), (.int (-1 : Int32))] ∧ Z.Warmed39 U.vm ∧ U.heap = h0) (fun _ _ _ _ _ => True) (fun _ U o U' => ∃ v L, o = .returned v ∧ Q18 Z a a1_ a2_ a3_ a4_ a5_ a6_ a7_ a8_ a9_ a10_ a11_ va vb vp h0 n0 v U'.heap L ∧ FrameEnd U o U' L ({ frames := 0, cells := 0, slots := 0, locals := 0 } : Room).cells ({ frames := 0, cells := 0, slots := 0, locals := 0 } : Room).slots) := by
  refine MetFree.of_bodySF pf_9 hisR ?_
  intro p e s m args below meth c s₁ Bd hml0 hP hK
  obtain ⟨rfl, hZ, hhE⟩ := hP
  have hx := Bd.exec
  have hby := Bd.bytes
  have hml : c.maxLocals = 2 := hml0
  have hown : s.vm.findClass "com/example/equitide/equitide/policy/backfilling/AvlTree" = some m.cls := findClass_of_methodNamed Bd.named
  have hnm := (name_of_methodNamed Bd.named Bd.method).1
  have X0 : Stand p l e ({ frames := 0, cells := 0, slots := 0, locals := 0 } : Room) s m #[(.ref a), (.int (-1 : Int32))] below meth c s₁ [] 0 0 := Stand.of_body Bd
  have e0 : s₁.heap = h0 := by rw [← hhE, Bd.state]; rfl
  have N0 := Fr.nil n0
  show own_Go p e below (own_Post s (Q18 Z a a1_ a2_ a3_ a4_ a5_ a6_ a7_ a8_ a9_ a10_ a11_ va vb vp h0 n0) ({ frames := 0, cells := 0, slots := 0, locals := 0 } : Room).cells ({ frames := 0, cells := 0, slots := 0, locals := 0 } : Room).slots) (s₁.setTop (entryFrame m #[(.ref a), (.int (-1 : Int32))] 2))
  rw [ef_rm18]
  generalize hG : own_Post s (Q18 Z a a1_ a2_ a3_ a4_ a5_ a6_ a7_ a8_ a9_ a10_ a11_ va vb vp h0 n0) ({ frames := 0, cells := 0, slots := 0, locals := 0 } : Room).cells ({ frames := 0, cells := 0, slots := 0, locals := 0 } : Room).slots = G
  obtain ⟨o1, o2, o3, o4, o5, o6, o7, o8, o9, o10, o11⟩ := id hord
  obtain ⟨E0, F0_0, F1_0, F2_0, F3_0, F4_0, F5_0, F6_0, F7_0, F8_0, F9_0, F10_0, F11_0, F12_0, F13_0, V0_0, V1_0, V2_0, V3_0, V4_0, V5_0, V6_0, V7_0, V8_0, V9_0, V10_0⟩ := B
  refine own_iloadN X0 hx (hb hby d9_0) rfl 1 rfl ?_
  refine own_iconst X0 hx (hb hby d9_1) (-1 : Int32) rfl 2 rfl ?_
  refine own_icmpN X0 hx (hb hby d9_2) (teq (by decide)).2 5 rfl ?_
  refine own_iconst X0 hx (hb hby d9_5) (0 : Int32) rfl 6 rfl ?_
  refine own_goto X0 hx (hb hby d9_6) 15 ⟨by decide, by decide⟩ ?_
  refine own_ireturn X0 hx Bd.notSynchronized hG Bd.returns (hb hby d9_15) (by decide) (by decide) ?_
  rw [e0]
  exact ⟨rfl, N0, rfl⟩
def Q20 (Z : State) (a a1_ a2_ a3_ a4_ a5_ a6_ a7_ a8_ a9_ a10_ a11_ : Addr) (va vb vp : Int64) (h0 : Heap) (n0 : Nat) (v : Option Value) (h : Heap) (L : List Loc) : Prop := v = some (.int (-1 : Int32)) ∧ Fr n0 L ∧ h = h0
theorem ef_rm20 (m : MethodId) (x0 : Addr) (x1 : Int32) : entryFrame m #[(.ref x0), (.int x1)] 2 = mkF m 0 #[.val (.ref x0), .val (.int x1)] [] := by first | (simp [entryFrame, mkF, argsToLocals, Value.category, maxLocals]; done) | rfl
set_option maxRecDepth 65536 in
set_option maxHeartbeats 40000000 in
theorem rm20 (l : Launch) (Z : State) (a0 : Array Value) (hw : ∀ d ∈ tables_1, d.before a0 Z = true) (ws : List Jvm.Cond) (a a1_ a2_ a3_ a4_ a5_ a6_ a7_ a8_ a9_ a10_ a11_ : Addr) (va vb vp : Int64) (h0 : Heap) (n0 : Nat) (Z0 : n0 ≤ h0.size) (ga : n0 ≤ a) (hord : own_Or a a1_ a2_ a3_ a4_ a5_ a6_ a7_ a8_ a9_ a10_ a11_) (B : own_PE Z h0 a a1_ a2_ a3_ a4_ a5_ a6_ a7_ a8_ a9_ a10_ a11_ (0 : Int32) (0 : Int32) (2 : Int32) (List.replicate 127 (0 : Int32)) (List.replicate 127 (0 : Int32)) [(0 : Int32), (1 : Int32)] [(1 : Int32), (0 : Int32)] [(-1 : Int32), (-1 : Int32)] [(-1 : Int32), (-1 : Int32)] [(1 : Int32), (1 : Int32)] [va, vb] [vp, vp] [(((0 : Int64) + vp) + (0 : Int64)), (0 : Int64)]) (hc : va < vb) :
    MetFree l own_y12 (head1 (Jvm.Cond.code own_y12 prog_49_method_7_code 2 (some .int) :: ws) ({ frames := 0, cells := 0, slots := 0, locals := 0 } : Room)) (fun aR U => aR = #[(.ref a), (.int (1 : Int32))] ∧ Z.Warmed39 U.vm ∧ U.heap = h0) (fun _ _ _ _ _ => True) (fun _ U o U' => ∃ v L, o = .returned v ∧ Q20 Z a a1_ a2_ a3_ a4_ a5_ a6_ a7_ a8_ a9_ a10_ a11_ va vb vp h0 n0 v U'.heap L ∧ FrameEnd U o U' L ({ frames := 0, cells := 0, slots := 0, locals := 0 } : Room).cells ({ frames := 0, cells := 0, slots := 0, locals := 0 } : Room).slots) := by
  refine MetFree.of_bodySF pf_12 hisR ?_
  intro p e s m args below meth c s₁ Bd hml0 hP hK
  obtain ⟨rfl, hZ, hhE⟩ := hP
  have hx := Bd.exec
  have hby := Bd.bytes
  have hml : c.maxLocals = 2 := hml0
  have hown : s.vm.findClass "com/example/equitide/equitide/policy/backfilling/AvlTree" = some m.cls := findClass_of_methodNamed Bd.named
  have hnm := (name_of_methodNamed Bd.named Bd.method).1
  have X0 : Stand p l e ({ frames := 0, cells := 0, slots := 0, locals := 0 } : Room) s m #[(.ref a), (.int (1 : Int32))] below meth c s₁ [] 0 0 := Stand.of_body Bd
  have e0 : s₁.heap = h0 := by rw [← hhE, Bd.state]; rfl
  have N0 := Fr.nil n0
  show own_Go p e below (own_Post s (Q20 Z a a1_ a2_ a3_ a4_ a5_ a6_ a7_ a8_ a9_ a10_ a11_ va vb vp h0 n0) ({ frames := 0, cells := 0, slots := 0, locals := 0 } : Room).cells ({ frames := 0, cells := 0, slots := 0, locals := 0 } : Room).slots) (s₁.setTop (entryFrame m #[(.ref a), (.int (1 : Int32))] 2))
  rw [ef_rm20]
  generalize hG : own_Post s (Q20 Z a a1_ a2_ a3_ a4_ a5_ a6_ a7_ a8_ a9_ a10_ a11_ va vb vp h0 n0) ({ frames := 0, cells := 0, slots := 0, locals := 0 } : Room).cells ({ frames := 0, cells := 0, slots := 0, locals := 0 } : Room).slots = G
  obtain ⟨o1, o2, o3, o4, o5, o6, o7, o8, o9, o10, o11⟩ := id hord
  obtain ⟨E0, F0_0, F1_0, F2_0, F3_0, F4_0, F5_0, F6_0, F7_0, F8_0, F9_0, F10_0, F11_0, F12_0, F13_0, V0_0, V1_0, V2_0, V3_0, V4_0, V5_0, V6_0, V7_0, V8_0, V9_0, V10_0⟩ := B
  refine own_aloadN X0 hx (hb hby d12_0) rfl rfl 1 rfl ?_
  refine own_getF X0 hx hZ hown (own_w hw 27 rfl) Via.refl e0 F7_0 (hb hby d12_1) 4 rfl (fun T1334 X1334 e1334 => ?_)
  refine own_iloadN X1334 hx (hb hby d12_4) rfl 5 rfl ?_
  refine own_iaload X1334 hx hZ e1334 V4_0 1 rfl (-1 : Int32) rfl (hb hby d12_5) 6 rfl ?_
  refine own_ireturn X1334 hx Bd.notSynchronized hG Bd.returns (hb hby d12_6) (by decide) (by decide) ?_
  rw [e1334]
  exact ⟨rfl, N0, rfl⟩
def Q21 (Z : State) (a a1_ a2_ a3_ a4_ a5_ a6_ a7_ a8_ a9_ a10_ a11_ : Addr) (va vb vp : Int64) (h0 : Heap) (n0 : Nat) (v : Option Value) (h : Heap) (L : List Loc) : Prop := v = some (.long (0 : Int64)) ∧ Fr n0 L ∧ h = h0
theorem ef_rm21 (m : MethodId) (x0 : Addr) (x1 : Int32) : entryFrame m #[(.ref x0), (.int x1)] 2 = mkF m 0 #[.val (.ref x0), .val (.int x1)] [] := by first | (simp [entryFrame, mkF, argsToLocals, Value.category, maxLocals]; done) | rfl
set_option maxRecDepth 65536 in
set_option maxHeartbeats 40000000 in
theorem rm21 (l : Launch) (Z : State) (a0 : Array Value) (hw : ∀ d ∈ tables_1, d.before a0 Z = true) (ws : List Jvm.Cond) (a a1_ a2_ a3_ a4_ a5_ a6_ a7_ a8_ a9_ a10_ a11_ : Addr) (va vb vp : Int64) (h0 : Heap) (n0 : Nat) (Z0 : n0 ≤ h0.size) (ga : n0 ≤ a) (hord : own_Or a a1_ a2_ a3_ a4_ a5_ a6_ a7_ a8_ a9_ a10_ a11_) (B : own_PE Z h0 a a1_ a2_ a3_ a4_ a5_ a6_ a7_ a8_ a9_ a10_ a11_ (0 : Int32) (0 : Int32) (2 : Int32) (List.replicate 127 (0 : Int32)) (List.replicate 127 (0 : Int32)) [(0 : Int32), (1 : Int32)] [(1 : Int32), (0 : Int32)] [(-1 : Int32), (-1 : Int32)] [(-1 : Int32), (-1 : Int32)] [(1 : Int32), (1 : Int32)] [va, vb] [vp, vp] [(((0 : Int64) + vp) + (0 : Int64)), (0 : Int64)]) (hc : va < vb) :
    MetFree l own_y13 (head1 (Jvm.Cond.code own_y13 prog_66_method_10_code 2 (some .long) :: ws) ({ frames := 0, cells := 0, slots := 0, locals := 0 } : Room)) (fun aR U => aR = #[(.ref a), (.int (-1 : Int32))] ∧ Z.Warmed39 U.vm ∧ U.heap = h0) (fun _ _ _ _ _ => True) (fun _ U o U' => ∃ v L, o = .returned v ∧ Q21 Z a a1_ a2_ a3_ a4_ a5_ a6_ a7_ a8_ a9_ a10_ a11_ va vb vp h0 n0 v U'.heap L ∧ FrameEnd U o U' L ({ frames := 0, cells := 0, slots := 0, locals := 0 } : Room).cells ({ frames := 0, cells := 0, slots := 0, locals := 0 } : Room).slots) := by
  refine MetFree.of_bodySF pf_13 hisR ?_
  intro p e s m args below meth c s₁ Bd hml0 hP hK
  obtain ⟨rfl, hZ, hhE⟩ := hP
  have hx := Bd.exec
  have hby := Bd.bytes
  have hml : c.maxLocals = 2 := hml0
  have hown : s.vm.findClass "com/example/equitide/equitide/policy/backfilling/PlannedEnds" = some m.cls := findClass_of_methodNamed Bd.named
  have hnm := (name_of_methodNamed Bd.named Bd.method).1
  have X0 : Stand p l e ({ frames := 0, cells := 0, slots := 0, locals := 0 } : Room) s m #[(.ref a), (.int (-1 : Int32))] below meth c s₁ [] 0 0 := Stand.of_body Bd
  have e0 : s₁.heap = h0 := by rw [← hhE, Bd.state]; rfl
  have N0 := Fr.nil n0
  show own_Go p e below (own_Post s (Q21 Z a a1_ a2_ a3_ a4_ a5_ a6_ a7_ a8_ a9_ a10_ a11_ va vb vp h0 n0) ({ frames := 0, cells := 0, slots := 0, locals := 0 } : Room).cells ({ frames := 0, cells := 0, slots := 0, locals := 0 } : Room).slots) (s₁.setTop (entryFrame m #[(.ref a), (.int (-1 : Int32))] 2))
  rw [ef_rm21]
  generalize hG : own_Post s (Q21 Z a a1_ a2_ a3_ a4_ a5_ a6_ a7_ a8_ a9_ a10_ a11_ va vb vp h0 n0) ({ frames := 0, cells := 0, slots := 0, locals := 0 } : Room).cells ({ frames := 0, cells := 0, slots := 0, locals := 0 } : Room).slots = G
  obtain ⟨o1, o2, o3, o4, o5, o6, o7, o8, o9, o10, o11⟩ := id hord
  obtain ⟨E0, F0_0, F1_0, F2_0, F3_0, F4_0, F5_0, F6_0, F7_0, F8_0, F9_0, F10_0, F11_0, F12_0, F13_0, V0_0, V1_0, V2_0, V3_0, V4_0, V5_0, V6_0, V7_0, V8_0, V9_0, V10_0⟩ := B
  refine own_iloadN X0 hx (hb hby d13_0) rfl 1 rfl ?_
  refine own_iconst X0 hx (hb hby d13_1) (-1 : Int32) rfl 2 rfl ?_
  refine own_icmpN X0 hx (hb hby d13_2) (teq (by decide)).2 5 rfl ?_
  refine own_lconst X0 hx (hb hby d13_5) (0 : Int64) rfl 6 rfl ?_
  refine own_goto X0 hx (hb hby d13_6) 15 ⟨by decide, by decide⟩ ?_
  refine own_lreturn X0 hx Bd.notSynchronized hG Bd.returns (hb hby d13_15) (by decide) (by decide) ?_
  rw [e0]
  exact ⟨rfl, N0, rfl⟩
def Q22 (Z : State) (a a1_ a2_ a3_ a4_ a5_ a6_ a7_ a8_ a9_ a10_ a11_ : Addr) (va vb vp : Int64) (h0 : Heap) (n0 : Nat) (v : Option Value) (h : Heap) (L : List Loc) : Prop := v = some (.int (-1 : Int32)) ∧ Fr n0 L ∧ h = h0
theorem ef_rm22 (m : MethodId) (x0 : Addr) (x1 : Int32) : entryFrame m #[(.ref x0), (.int x1)] 2 = mkF m 0 #[.val (.ref x0), .val (.int x1)] [] := by first | (simp [entryFrame, mkF, argsToLocals, Value.category, maxLocals]; done) | rfl
set_option maxRecDepth 65536 in
set_option maxHeartbeats 40000000 in
theorem rm22 (l : Launch) (Z : State) (a0 : Array Value) (hw : ∀ d ∈ tables_1, d.before a0 Z = true) (ws : List Jvm.Cond) (a a1_ a2_ a3_ a4_ a5_ a6_ a7_ a8_ a9_ a10_ a11_ : Addr) (va vb vp : Int64) (h0 : Heap) (n0 : Nat) (Z0 : n0 ≤ h0.size) (ga : n0 ≤ a) (hord : own_Or a a1_ a2_ a3_ a4_ a5_ a6_ a7_ a8_ a9_ a10_ a11_) (B : own_PE Z h0 a a1_ a2_ a3_ a4_ a5_ a6_ a7_ a8_ a9_ a10_ a11_ (0 : Int32) (0 : Int32) (2 : Int32) (List.replicate 127 (0 : Int32)) (List.replicate 127 (0 : Int32)) [(0 : Int32), (1 : Int32)] [(1 : Int32), (0 : Int32)] [(-1 : Int32), (-1 : Int32)] [(-1 : Int32), (-1 : Int32)] [(1 : Int32), (1 : Int32)] [va, vb] [vp, vp] [(((0 : Int64) + vp) + (0 : Int64)), (0 : Int64)]) (hc : va < vb) :
    MetFree l own_y14 (head1 (Jvm.Cond.code own_y14 prog_49_method_8_code 2 (some .int) :: ws) ({ frames := 0, cells := 0, slots := 0, locals := 0 } : Room)) (fun aR U => aR = #[(.ref a), (.int (1 : Int32))] ∧ Z.Warmed39 U.vm ∧ U.heap = h0) (fun _ _ _ _ _ => True) (fun _ U o U' => ∃ v L, o = .returned v ∧ Q22 Z a a1_ a2_ a3_ a4_ a5_ a6_ a7_ a8_ a9_ a10_ a11_ va vb vp h0 n0 v U'.heap L ∧ FrameEnd U o U' L ({ frames := 0, cells := 0, slots := 0, locals := 0 } : Room).cells ({ frames := 0, cells := 0, slots := 0, locals := 0 } : Room).slots) := by
  refine MetFree.of_bodySF pf_14 hisR ?_
  intro p e s m args below meth c s₁ Bd hml0 hP hK
  obtain ⟨rfl, hZ, hhE⟩ := hP
  have hx := Bd.exec
  have hby := Bd.bytes
  have hml : c.maxLocals = 2 := hml0
  have hown : s.vm.findClass "com/example/equitide/equitide/policy/backfilling/AvlTree" = some m.cls := findClass_of_methodNamed Bd.named
  have hnm := (name_of_methodNamed Bd.named Bd.method).1
  have X0 : Stand p l e ({ frames := 0, cells := 0, slots := 0, locals := 0 } : Room) s m #[(.ref a), (.int (1 : Int32))] below meth c s₁ [] 0 0 := Stand.of_body Bd
  have e0 : s₁.heap = h0 := by rw [← hhE, Bd.state]; rfl
  have N0 := Fr.nil n0
  show own_Go p e below (own_Post s (Q22 Z a a1_ a2_ a3_ a4_ a5_ a6_ a7_ a8_ a9_ a10_ a11_ va vb vp h0 n0) ({ frames := 0, cells := 0, slots := 0, locals := 0 } : Room).cells ({ frames := 0, cells := 0, slots := 0, locals := 0 } : Room).slots) (s₁.setTop (entryFrame m #[(.ref a), (.int (1 : Int32))] 2))
  rw [ef_rm22]
  generalize hG : own_Post s (Q22 Z a a1_ a2_ a3_ a4_ a5_ a6_ a7_ a8_ a9_ a10_ a11_ va vb vp h0 n0) ({ frames := 0, cells := 0, slots := 0, locals := 0 } : Room).cells ({ frames := 0, cells := 0, slots := 0, locals := 0 } : Room).slots = G
  obtain ⟨o1, o2, o3, o4, o5, o6, o7, o8, o9, o10, o11⟩ := id hord
  obtain ⟨E0, F0_0, F1_0, F2_0, F3_0, F4_0, F5_0, F6_0, F7_0, F8_0, F9_0, F10_0, F11_0, F12_0, F13_0, V0_0, V1_0, V2_0, V3_0, V4_0, V5_0, V6_0, V7_0, V8_0, V9_0, V10_0⟩ := B
  refine own_aloadN X0 hx (hb hby d14_0) rfl rfl 1 rfl ?_
  refine own_getF X0 hx hZ hown (own_w hw 29 rfl) Via.refl e0 F8_0 (hb hby d14_1) 4 rfl (fun T1340 X1340 e1340 => ?_)
  refine own_iloadN X1340 hx (hb hby d14_4) rfl 5 rfl ?_
  refine own_iaload X1340 hx hZ e1340 V5_0 1 rfl (-1 : Int32) rfl (hb hby d14_5) 6 rfl ?_
  refine own_ireturn X1340 hx Bd.notSynchronized hG Bd.returns (hb hby d14_6) (by decide) (by decide) ?_
  rw [e1340]
  exact ⟨rfl, N0, rfl⟩
def Q19 (Z : State) (a a1_ a2_ a3_ a4_ a5_ a6_ a7_ a8_ a9_ a10_ a11_ : Addr) (va vb vp : Int64) (h0 : Heap) (n0 : Nat) (v : Option Value) (h : Heap) (L : List Loc) : Prop := v = none ∧ Fr n0 L ∧ n0 ≤ h.size ∧ own_PE Z h a a1_ a2_ a3_ a4_ a5_ a6_ a7_ a8_ a9_ a10_ a11_ (0 : Int32) (0 : Int32) (2 : Int32) (List.replicate 127 (0 : Int32)) (List.replicate 127 (0 : Int32)) [(0 : Int32), (1 : Int32)] [(1 : Int32), (0 : Int32)] [(-1 : Int32), (-1 : Int32)] [(-1 : Int32), (-1 : Int32)] [(1 : Int32), (1 : Int32)] [va, vb] [vp, vp] [(((0 : Int64) + vp) + (0 : Int64)), (((0 : Int64) + vp) + (0 : Int64))]
theorem ef_rm19 (m : MethodId) (x0 : Addr) (x1 : Int32) : entryFrame m #[(.ref x0), (.int x1)] 2 = mkF m 0 #[.val (.ref x0), .val (.int x1)] [] := by first | (simp [entryFrame, mkF, argsToLocals, Value.category, maxLocals]; done) | rfl
set_option maxRecDepth 65536 in
set_option maxHeartbeats 40000000 in
theorem rm19 (l : Launch) (Z : State) (a0 : Array Value) (hw : ∀ d ∈ tables_1, d.before a0 Z = true) (ws : List Jvm.Cond) (a a1_ a2_ a3_ a4_ a5_ a6_ a7_ a8_ a9_ a10_ a11_ : Addr) (va vb vp : Int64) (h0 : Heap) (n0 : Nat) (Z0 : n0 ≤ h0.size) (ga : n0 ≤ a) (hord : own_Or a a1_ a2_ a3_ a4_ a5_ a6_ a7_ a8_ a9_ a10_ a11_) (B : own_PE Z h0 a a1_ a2_ a3_ a4_ a5_ a6_ a7_ a8_ a9_ a10_ a11_ (0 : Int32) (0 : Int32) (2 : Int32) (List.replicate 127 (0 : Int32)) (List.replicate 127 (0 : Int32)) [(0 : Int32), (1 : Int32)] [(1 : Int32), (0 : Int32)] [(-1 : Int32), (-1 : Int32)] [(-1 : Int32), (-1 : Int32)] [(1 : Int32), (1 : Int32)] [va, vb] [vp, vp] [(((0 : Int64) + vp) + (0 : Int64)), (0 : Int64)]) (hc : va < vb) :
    MetFree l own_y11 (head1 (Jvm.Cond.code own_y11 prog_66_method_8_code 2 none :: ws) ({ frames := 1, cells := 0, slots := 0, locals := 18 } : Room)) (fun aR U => aR = #[(.ref a), (.int (1 : Int32))] ∧ Z.Warmed39 U.vm ∧ U.heap = h0) (fun _ _ _ _ _ => True) (fun _ U o U' => ∃ v L, o = .returned v ∧ Q19 Z a a1_ a2_ a3_ a4_ a5_ a6_ a7_ a8_ a9_ a10_ a11_ va vb vp h0 n0 v U'.heap L ∧ FrameEnd U o U' L ({ frames := 1, cells := 0, slots := 0, locals := 18 } : Room).cells ({ frames := 1, cells := 0, slots := 0, locals := 18 } : Room).slots) := by
  refine MetFree.of_bodySF pf_11 hisR ?_
  intro p e s m args below meth c s₁ Bd hml0 hP hK
  obtain ⟨rfl, hZ, hhE⟩ := hP
  have hx := Bd.exec
  have hby := Bd.bytes
  have hml : c.maxLocals = 2 := hml0
  have hown : s.vm.findClass "com/example/equitide/equitide/policy/backfilling/PlannedEnds" = some m.cls := findClass_of_methodNamed Bd.named
  have hnm := (name_of_methodNamed Bd.named Bd.method).1
  have X0 : Stand p l e ({ frames := 1, cells := 0, slots := 0, locals := 18 } : Room) s m #[(.ref a), (.int (1 : Int32))] below meth c s₁ [] 0 0 := Stand.of_body Bd
  have e0 : s₁.heap = h0 := by rw [← hhE, Bd.state]; rfl
  have N0 := Fr.nil n0
  show own_Go p e below (own_Post s (Q19 Z a a1_ a2_ a3_ a4_ a5_ a6_ a7_ a8_ a9_ a10_ a11_ va vb vp h0 n0) ({ frames := 1, cells := 0, slots := 0, locals := 18 } : Room).cells ({ frames := 1, cells := 0, slots := 0, locals := 18 } : Room).slots) (s₁.setTop (entryFrame m #[(.ref a), (.int (1 : Int32))] 2))
  rw [ef_rm19]
  generalize hG : own_Post s (Q19 Z a a1_ a2_ a3_ a4_ a5_ a6_ a7_ a8_ a9_ a10_ a11_ va vb vp h0 n0) ({ frames := 1, cells := 0, slots := 0, locals := 18 } : Room).cells ({ frames := 1, cells := 0, slots := 0, locals := 18 } : Room).slots = G
  obtain ⟨o1, o2, o3, o4, o5, o6, o7, o8, o9, o10, o11⟩ := id hord
  obtain ⟨E0, F0_0, F1_0, F2_0, F3_0, F4_0, F5_0, F6_0, F7_0, F8_0, F9_0, F10_0, F11_0, F12_0, F13_0, V0_0, V1_0, V2_0, V3_0, V4_0, V5_0, V6_0, V7_0, V8_0, V9_0, V10_0⟩ := B
  refine own_aloadN X0 hx (hb hby d11_0) rfl rfl 1 rfl ?_
  refine own_getF X0 hx hZ hown (own_w hw 44 rfl) Via.refl e0 F13_0 (hb hby d11_1) 4 rfl (fun T1333 X1333 e1333 => ?_)
  refine own_iloadN X1333 hx (hb hby d11_4) rfl 5 rfl ?_
  refine own_aloadN X1333 hx (hb hby d11_5) rfl rfl 6 rfl ?_
  refine own_aloadN X1333 hx (hb hby d11_6) rfl rfl 7 rfl ?_
  refine own_iloadN X1333 hx (hb hby d11_7) rfl 8 rfl ?_
  refine own_callU X1333 hx hZ hown (own_w hw 87 rfl) (own_w hw 88 rfl) (own_w hw 89 rfl) (own_w hw 91 rfl) (own_w hw 90 rfl) (own_w hw 9 rfl) (own_w hw 92 rfl) (by decide) e1333 E0 (rm20 l Z a0 hw [] a a1_ a2_ a3_ a4_ a5_ a6_ a7_ a8_ a9_ a10_ a11_ va vb vp h0 n0 Z0 ga hord ⟨E0, F0_0, F1_0, F2_0, F3_0, F4_0, F5_0, F6_0, F7_0, F8_0, F9_0, F10_0, F11_0, F12_0, F13_0, V0_0, V1_0, V2_0, V3_0, V4_0, V5_0, V6_0, V7_0, V8_0, V9_0, V10_0⟩ hc) (by rw [hml]; rfl) pd_2 (argsL := [(.int (1 : Int32))]) rfl (rest := [(.ref a), (.int (1 : Int32)), (.ref a11_)]) rfl (hb hby d11_8) 3 (Nat.le_of_eq rfl) (by decide) (by decide) (by decide) (by decide) 11 rfl (fun T1335 L1335 v1335 X1335 hQ1335 => ?_)
  obtain ⟨rfl, N1335, e1335⟩ := hQ1335
  have N1336 := Fr.app N0 N1335
  show own_Go p e below G (T1335.setTop (mkF m 11 #[.val (.ref a), .val (.int (1 : Int32))] [(.int (-1 : Int32)), (.ref a), (.int (1 : Int32)), (.ref a11_)]))
  refine own_callP X1335 hx hZ hown (own_w hw 93 rfl) (own_w hw 94 rfl) (own_w hw 95 rfl) (own_niI hZ (own_w hw 1 rfl)) (own_w hw 2 rfl) (own_w hw 96 rfl) (by decide) e1335 E0 (rm21 l Z a0 hw [] a a1_ a2_ a3_ a4_ a5_ a6_ a7_ a8_ a9_ a10_ a11_ va vb vp h0 n0 Z0 ga hord ⟨E0, F0_0, F1_0, F2_0, F3_0, F4_0, F5_0, F6_0, F7_0, F8_0, F9_0, F10_0, F11_0, F12_0, F13_0, V0_0, V1_0, V2_0, V3_0, V4_0, V5_0, V6_0, V7_0, V8_0, V9_0, V10_0⟩ hc) (by rw [hml]; rfl) pd_4 (argsL := [(.int (-1 : Int32))]) rfl (rest := [(.int (1 : Int32)), (.ref a11_)]) rfl (hb hby d11_11) 2 (Nat.le_of_eq rfl) (by decide) (by decide) (by decide) (by decide) 14 rfl (fun T1337 L1337 v1337 X1337 hQ1337 => ?_)
  obtain ⟨rfl, N1337, e1337⟩ := hQ1337
  have N1338 := Fr.app N1336 N1337
  show own_Go p e below G (T1337.setTop (mkF m 14 #[.val (.ref a), .val (.int (1 : Int32))] [(.long (0 : Int64)), (.int (1 : Int32)), (.ref a11_)]))
  refine own_aloadN X1337 hx (hb hby d11_14) rfl rfl 15 rfl ?_
  refine own_getF X1337 hx hZ hown (own_w hw 42 rfl) Via.refl e1337 F12_0 (hb hby d11_15) 18 rfl (fun T1339 X1339 e1339 => ?_)
  refine own_iloadN X1339 hx (hb hby d11_18) rfl 19 rfl ?_
  refine own_laload X1339 hx hZ e1339 V9_0 1 rfl vp rfl (hb hby d11_19) 20 rfl ?_
  refine own_ladd X1339 hx (hb hby d11_20) 21 rfl ?_
  refine own_aloadN X1339 hx (hb hby d11_21) rfl rfl 22 rfl ?_
  refine own_aloadN X1339 hx (hb hby d11_22) rfl rfl 23 rfl ?_
  refine own_iloadN X1339 hx (hb hby d11_23) rfl 24 rfl ?_
  refine own_callU X1339 hx hZ hown (own_w hw 97 rfl) (own_w hw 98 rfl) (own_w hw 99 rfl) (own_w hw 101 rfl) (own_w hw 100 rfl) (own_w hw 9 rfl) (own_w hw 102 rfl) (by decide) e1339 E0 (rm22 l Z a0 hw [] a a1_ a2_ a3_ a4_ a5_ a6_ a7_ a8_ a9_ a10_ a11_ va vb vp h0 n0 Z0 ga hord ⟨E0, F0_0, F1_0, F2_0, F3_0, F4_0, F5_0, F6_0, F7_0, F8_0, F9_0, F10_0, F11_0, F12_0, F13_0, V0_0, V1_0, V2_0, V3_0, V4_0, V5_0, V6_0, V7_0, V8_0, V9_0, V10_0⟩ hc) (by rw [hml]; rfl) pd_2 (argsL := [(.int (1 : Int32))]) rfl (rest := [(.ref a), (.long ((0 : Int64) + vp)), (.int (1 : Int32)), (.ref a11_)]) rfl (hb hby d11_24) 5 (Nat.le_of_eq rfl) (by decide) (by decide) (by decide) (by decide) 27 rfl (fun T1341 L1341 v1341 X1341 hQ1341 => ?_)
  obtain ⟨rfl, N1341, e1341⟩ := hQ1341
  have N1342 := Fr.app N1338 N1341
  show own_Go p e below G (T1341.setTop (mkF m 27 #[.val (.ref a), .val (.int (1 : Int32))] [(.int (-1 : Int32)), (.ref a), (.long ((0 : Int64) + vp)), (.int (1 : Int32)), (.ref a11_)]))
  refine own_callP X1341 hx hZ hown (own_w hw 93 rfl) (own_w hw 94 rfl) (own_w hw 95 rfl) (own_niI hZ (own_w hw 1 rfl)) (own_w hw 2 rfl) (own_w hw 96 rfl) (by decide) e1341 E0 (rm21 l Z a0 hw [] a a1_ a2_ a3_ a4_ a5_ a6_ a7_ a8_ a9_ a10_ a11_ va vb vp h0 n0 Z0 ga hord ⟨E0, F0_0, F1_0, F2_0, F3_0, F4_0, F5_0, F6_0, F7_0, F8_0, F9_0, F10_0, F11_0, F12_0, F13_0, V0_0, V1_0, V2_0, V3_0, V4_0, V5_0, V6_0, V7_0, V8_0, V9_0, V10_0⟩ hc) (by rw [hml]; rfl) pd_4 (argsL := [(.int (-1 : Int32))]) rfl (rest := [(.long ((0 : Int64) + vp)), (.int (1 : Int32)), (.ref a11_)]) rfl (hb hby d11_27) 4 (Nat.le_of_eq rfl) (by decide) (by decide) (by decide) (by decide) 30 rfl (fun T1343 L1343 v1343 X1343 hQ1343 => ?_)
  obtain ⟨rfl, N1343, e1343⟩ := hQ1343
  have N1344 := Fr.app N1342 N1343
  show own_Go p e below G (T1343.setTop (mkF m 30 #[.val (.ref a), .val (.int (1 : Int32))] [(.long (0 : Int64)), (.long ((0 : Int64) + vp)), (.int (1 : Int32)), (.ref a11_)]))
  refine own_ladd X1343 hx (hb hby d11_30) 31 rfl ?_
  refine own_lastore X1343 hx hZ e1343 V10_0 1 rfl (by simp) (hb hby d11_31) 32 rfl (fun T1345 h1345 X1345 e1345 W1345 V1345 => ?_)
  rw [show [(((0 : Int64) + vp) + (0 : Int64)), (0 : Int64)].set 1 (((0 : Int64) + vp) + (0 : Int64)) = [(((0 : Int64) + vp) + (0 : Int64)), (((0 : Int64) + vp) + (0 : Int64))] from rfl] at V1345
  have N1346 := Fr.snoc X1345 N1344 (by omega)
  have Z1347 : n0 ≤ h1345.size := by rw [W1345.size]; exact Z0
  have E1348 := E0.wr W1345
  have F1349 := F0_0.other W1345 (Or.inl (Nat.ne_of_lt (by omega)))
  have F1350 := F1_0.other W1345 (Or.inl (Nat.ne_of_lt (by omega)))
  have F1351 := F2_0.other W1345 (Or.inl (Nat.ne_of_lt (by omega)))
  have F1352 := F3_0.other W1345 (Or.inl (Nat.ne_of_lt (by omega)))
  have F1353 := F4_0.other W1345 (Or.inl (Nat.ne_of_lt (by omega)))
  have F1354 := F5_0.other W1345 (Or.inl (Nat.ne_of_lt (by omega)))
  have F1355 := F6_0.other W1345 (Or.inl (Nat.ne_of_lt (by omega)))
  have F1356 := F7_0.other W1345 (Or.inl (Nat.ne_of_lt (by omega)))
  have F1357 := F8_0.other W1345 (Or.inl (Nat.ne_of_lt (by omega)))
  have F1358 := F9_0.other W1345 (Or.inl (Nat.ne_of_lt (by omega)))
  have F1359 := F10_0.other W1345 (Or.inl (Nat.ne_of_lt (by omega)))
  have F1360 := F11_0.other W1345 (Or.inl (Nat.ne_of_lt (by omega)))
  have F1361 := F12_0.other W1345 (Or.inl (Nat.ne_of_lt (by omega)))
  have F1362 := F13_0.other W1345 (Or.inl (Nat.ne_of_lt (by omega)))
  have V1363 := V0_0.other W1345 (Nat.ne_of_lt (by omega))
  have V1364 := V1_0.other W1345 (Nat.ne_of_lt (by omega))
  have V1365 := V2_0.other W1345 (Nat.ne_of_lt (by omega))
  have V1366 := V3_0.other W1345 (Nat.ne_of_lt (by omega))
  have V1367 := V4_0.other W1345 (Nat.ne_of_lt (by omega))
  have V1368 := V5_0.other W1345 (Nat.ne_of_lt (by omega))
  have V1369 := V6_0.other W1345 (Nat.ne_of_lt (by omega))
  have V1370 := V7_0.other W1345 (Nat.ne_of_lt (by omega))
  have V1371 := V8_0.other W1345 (Nat.ne_of_lt (by omega))
  have V1372 := V9_0.other W1345 (Nat.ne_of_lt (by omega))
  refine own_return X1345 hx Bd.notSynchronized hG Bd.returns (hb hby d11_32) (by decide) (by decide) ?_
  rw [e1345]
  exact ⟨rfl, N1346, Z1347, ⟨E1348, F1349, F1350, F1351, F1352, F1353, F1354, F1355, F1356, F1357, F1358, F1359, F1360, F1361, F1362, V1363, V1364, V1365, V1366, V1367, V1368, V1369, V1370, V1371, V1372, V1345⟩⟩
def Q17 (Z : State) (a a1_ a2_ a3_ a4_ a5_ a6_ a7_ a8_ a9_ a10_ a11_ : Addr) (va vb vp : Int64) (h0 : Heap) (n0 : Nat) (v : Option Value) (h : Heap) (L : List Loc) : Prop := v = none ∧ Fr n0 L ∧ n0 ≤ h.size ∧ own_PE Z h a a1_ a2_ a3_ a4_ a5_ a6_ a7_ a8_ a9_ a10_ a11_ (0 : Int32) (0 : Int32) (2 : Int32) (List.replicate 127 (0 : Int32)) (List.replicate 127 (0 : Int32)) [(0 : Int32), (1 : Int32)] [(1 : Int32), (0 : Int32)] [(-1 : Int32), (-1 : Int32)] [(-1 : Int32), (-1 : Int32)] [(1 : Int32), (1 : Int32)] [va, vb] [vp, vp] [(((0 : Int64) + vp) + (0 : Int64)), (((0 : Int64) + vp) + (0 : Int64))]
theorem ef_rm17 (m : MethodId) (x0 : Addr) (x1 : Int32) : entryFrame m #[(.ref x0), (.int x1)] 2 = mkF m 0 #[.val (.ref x0), .val (.int x1)] [] := by first | (simp [entryFrame, mkF, argsToLocals, Value.category, maxLocals]; done) | rfl
set_option maxRecDepth 65536 in
set_option maxHeartbeats 40000000 in
theorem rm17 (l : Launch) (Z : State) (a0 : Array Value) (hw : ∀ d ∈ tables_1, d.before a0 Z = true) (ws : List Jvm.Cond) (a a1_ a2_ a3_ a4_ a5_ a6_ a7_ a8_ a9_ a10_ a11_ : Addr) (va vb vp : Int64) (h0 : Heap) (n0 : Nat) (Z0 : n0 ≤ h0.size) (ga : n0 ≤ a) (hord : own_Or a a1_ a2_ a3_ a4_ a5_ a6_ a7_ a8_ a9_ a10_ a11_) (B : own_PE Z h0 a a1_ a2_ a3_ a4_ a5_ a6_ a7_ a8_ a9_ a10_ a11_ (0 : Int32) (0 : Int32) (2 : Int32) (List.replicate 127 (0 : Int32)) (List.replicate 127 (0 : Int32)) [(0 : Int32), (1 : Int32)] [(1 : Int32), (0 : Int32)] [(-1 : Int32), (-1 : Int32)] [(-1 : Int32), (-1 : Int32)] [(1 : Int32), (0 : Int32)] [va, vb] [vp, vp] [(((0 : Int64) + vp) + (0 : Int64)), (0 : Int64)]) (hc : va < vb) :
    MetFree l own_y8 (head1 (Jvm.Cond.code own_y8 prog_49_method_27_code 2 none :: ws) ({ frames := 2, cells := 0, slots := 0, locals := 31 } : Room)) (fun aR U => aR = #[(.ref a), (.int (1 : Int32))] ∧ Z.Warmed39 U.vm ∧ U.heap = h0) (fun _ _ _ _ _ => True) (fun _ U o U' => ∃ v L, o = .returned v ∧ Q17 Z a a1_ a2_ a3_ a4_ a5_ a6_ a7_ a8_ a9_ a10_ a11_ va vb vp h0 n0 v U'.heap L ∧ FrameEnd U o U' L ({ frames := 2, cells := 0, slots := 0, locals := 31 } : Room).cells ({ frames := 2, cells := 0, slots := 0, locals := 31 } : Room).slots) := by
  refine MetFree.of_bodySF pf_8 hisR ?_
  intro p e s m args below meth c s₁ Bd hml0 hP hK
  obtain ⟨rfl, hZ, hhE⟩ := hP
  have hx := Bd.exec
  have hby := Bd.bytes
  have hml : c.maxLocals = 2 := hml0
  have hown : s.vm.findClass "com/example/equitide/equitide/policy/backfilling/AvlTree" = some m.cls := findClass_of_methodNamed Bd.named
  have hnm := (name_of_methodNamed Bd.named Bd.method).1
  have X0 : Stand p l e ({ frames := 2, cells := 0, slots := 0, locals := 31 } : Room) s m #[(.ref a), (.int (1 : Int32))] below meth c s₁ [] 0 0 := Stand.of_body Bd
  have e0 : s₁.heap = h0 := by rw [← hhE, Bd.state]; rfl
  have N0 := Fr.nil n0
  show own_Go p e below (own_Post s (Q17 Z a a1_ a2_ a3_ a4_ a5_ a6_ a7_ a8_ a9_ a10_ a11_ va vb vp h0 n0) ({ frames := 2, cells := 0, slots := 0, locals := 31 } : Room).cells ({ frames := 2, cells := 0, slots := 0, locals := 31 } : Room).slots) (s₁.setTop (entryFrame m #[(.ref a), (.int (1 : Int32))] 2))
  rw [ef_rm17]
  generalize hG : own_Post s (Q17 Z a a1_ a2_ a3_ a4_ a5_ a6_ a7_ a8_ a9_ a10_ a11_ va vb vp h0 n0) ({ frames := 2, cells := 0, slots := 0, locals := 31 } : Room).cells ({ frames := 2, cells := 0, slots := 0, locals := 31 } : Room).slots = G
  obtain ⟨o1, o2, o3, o4, o5, o6, o7, o8, o9, o10, o11⟩ := id hord
  obtain ⟨E0, F0_0, F1_0, F2_0, F3_0, F4_0, F5_0, F6_0, F7_0, F8_0, F9_0, F10_0, F11_0, F12_0, F13_0, V0_0, V1_0, V2_0, V3_0, V4_0, V5_0, V6_0, V7_0, V8_0, V9_0, V10_0⟩ := B
  refine own_aloadN X0 hx (hb hby d8_0) rfl rfl 1 rfl ?_
  refine own_getF X0 hx hZ hown (own_w hw 37 rfl) Via.refl e0 F10_0 (hb hby d8_1) 4 rfl (fun T1296 X1296 e1296 => ?_)
  refine own_iloadN X1296 hx (hb hby d8_4) rfl 5 rfl ?_
  refine own_iconst X1296 hx (hb hby d8_5) (1 : Int32) rfl 6 rfl ?_
  refine own_aloadN X1296 hx (hb hby d8_6) rfl rfl 7 rfl ?_
  refine own_aloadN X1296 hx (hb hby d8_7) rfl rfl 8 rfl ?_
  refine own_getF X1296 hx hZ hown (own_w hw 27 rfl) Via.refl e1296 F7_0 (hb hby d8_8) 11 rfl (fun T1297 X1297 e1297 => ?_)
  refine own_iloadN X1297 hx (hb hby d8_11) rfl 12 rfl ?_
  refine own_iaload X1297 hx hZ e1297 V4_0 1 rfl (-1 : Int32) rfl (hb hby d8_12) 13 rfl ?_
  refine own_callP X1297 hx hZ hown (own_w hw 74 rfl) (own_w hw 75 rfl) (own_w hw 76 rfl) (own_niS hZ (own_w hw 60 rfl) (own_w hw 59 rfl) rfl) (own_w hw 9 rfl) (own_w hw 77 rfl) (by decide) e1297 E0 (rm18 l Z a0 hw [] a a1_ a2_ a3_ a4_ a5_ a6_ a7_ a8_ a9_ a10_ a11_ va vb vp h0 n0 Z0 ga hord ⟨E0, F0_0, F1_0, F2_0, F3_0, F4_0, F5_0, F6_0, F7_0, F8_0, F9_0, F10_0, F11_0, F12_0, F13_0, V0_0, V1_0, V2_0, V3_0, V4_0, V5_0, V6_0, V7_0, V8_0, V9_0, V10_0⟩ hc) (by rw [hml]; rfl) pd_2 (argsL := [(.int (-1 : Int32))]) rfl (rest := [(.int (1 : Int32)), (.int (1 : Int32)), (.ref a8_)]) rfl (hb hby d8_13) 3 (Nat.le_of_eq rfl) (by decide) (by decide) (by decide) (by decide) 16 rfl (fun T1298 L1298 v1298 X1298 hQ1298 => ?_)
  obtain ⟨rfl, N1298, e1298⟩ := hQ1298
  have N1299 := Fr.app N0 N1298
  show own_Go p e below G (T1298.setTop (mkF m 16 #[.val (.ref a), .val (.int (1 : Int32))] [(.int (0 : Int32)), (.int (1 : Int32)), (.int (1 : Int32)), (.ref a8_)]))
  refine own_aloadN X1298 hx (hb hby d8_16) rfl rfl 17 rfl ?_
  refine own_aloadN X1298 hx (hb hby d8_17) rfl rfl 18 rfl ?_
  refine own_getF X1298 hx hZ hown (own_w hw 29 rfl) Via.refl e1298 F8_0 (hb hby d8_18) 21 rfl (fun T1300 X1300 e1300 => ?_)
  refine own_iloadN X1300 hx (hb hby d8_21) rfl 22 rfl ?_
  refine own_iaload X1300 hx hZ e1300 V5_0 1 rfl (-1 : Int32) rfl (hb hby d8_22) 23 rfl ?_
  refine own_callP X1300 hx hZ hown (own_w hw 74 rfl) (own_w hw 75 rfl) (own_w hw 76 rfl) (own_niS hZ (own_w hw 60 rfl) (own_w hw 59 rfl) rfl) (own_w hw 9 rfl) (own_w hw 77 rfl) (by decide) e1300 E0 (rm18 l Z a0 hw [] a a1_ a2_ a3_ a4_ a5_ a6_ a7_ a8_ a9_ a10_ a11_ va vb vp h0 n0 Z0 ga hord ⟨E0, F0_0, F1_0, F2_0, F3_0, F4_0, F5_0, F6_0, F7_0, F8_0, F9_0, F10_0, F11_0, F12_0, F13_0, V0_0, V1_0, V2_0, V3_0, V4_0, V5_0, V6_0, V7_0, V8_0, V9_0, V10_0⟩ hc) (by rw [hml]; rfl) pd_2 (argsL := [(.int (-1 : Int32))]) rfl (rest := [(.int (0 : Int32)), (.int (1 : Int32)), (.int (1 : Int32)), (.ref a8_)]) rfl (hb hby d8_23) 4 (Nat.le_of_eq rfl) (by decide) (by decide) (by decide) (by decide) 26 rfl (fun T1301 L1301 v1301 X1301 hQ1301 => ?_)
  obtain ⟨rfl, N1301, e1301⟩ := hQ1301
  have N1302 := Fr.app N1299 N1301
  show own_Go p e below G (T1301.setTop (mkF m 26 #[.val (.ref a), .val (.int (1 : Int32))] [(.int (0 : Int32)), (.int (0 : Int32)), (.int (1 : Int32)), (.int (1 : Int32)), (.ref a8_)]))
  refine own_callS X1301 hx hZ hown (own_w hw 78 rfl) (own_w hw 79 rfl) (own_w hw 80 rfl) (own_w hw 81 rfl) (by decide) e1301 (rmMax l Z a0 hw [] (0 : Int32) (0 : Int32) h0 n0) (by rw [hml]; rfl) pd_3 (argsL := [(.int (0 : Int32)), (.int (0 : Int32))]) rfl (rest := [(.int (1 : Int32)), (.int (1 : Int32)), (.ref a8_)]) rfl (hb hby d8_26) 3 (Nat.le_of_eq rfl) (by decide) (by decide) (by decide) (by decide) 29 rfl (fun T1303 L1303 v1303 X1303 hQ1303 => ?_)
  obtain ⟨rfl, N1303, e1303⟩ := hQ1303
  have N1304 := Fr.app N1302 N1303
  show own_Go p e below G (T1303.setTop (mkF m 29 #[.val (.ref a), .val (.int (1 : Int32))] [(.int (own_max (0 : Int32) (0 : Int32))), (.int (1 : Int32)), (.int (1 : Int32)), (.ref a8_)]))
  rw [show own_max (0 : Int32) (0 : Int32) = (0 : Int32) from rfl]
  refine own_iadd X1303 hx (hb hby d8_29) 30 rfl ?_
  show own_Go p e below G (T1303.setTop (mkF m 30 #[.val (.ref a), .val (.int (1 : Int32))] [(.int (1 : Int32)), (.int (1 : Int32)), (.ref a8_)]))
  refine own_i2b X1303 hx (hb hby d8_30) 31 rfl ?_
  show own_Go p e below G (T1303.setTop (mkF m 31 #[.val (.ref a), .val (.int (1 : Int32))] [(.int (1 : Int32)), (.int (1 : Int32)), (.ref a8_)]))
  refine own_bastore X1303 hx hZ e1303 V7_0 1 rfl (by simp) (hb hby d8_31) 32 rfl (fun T1305 h1305 X1305 e1305 W1305 V1305 => ?_)
  rw [show [(1 : Int32), (0 : Int32)].set 1 ((1 : Int32).toInt8.toInt32) = [(1 : Int32), (1 : Int32)] from rfl] at V1305
  have N1306 := Fr.snoc X1305 N1304 (by omega)
  have Z1307 : n0 ≤ h1305.size := by rw [W1305.size]; exact Z0
  have E1308 := E0.wr W1305
  have F1309 := F0_0.other W1305 (Or.inl (Nat.ne_of_lt (by omega)))
  have F1310 := F1_0.other W1305 (Or.inl (Nat.ne_of_lt (by omega)))
  have F1311 := F2_0.other W1305 (Or.inl (Nat.ne_of_lt (by omega)))
  have F1312 := F3_0.other W1305 (Or.inl (Nat.ne_of_lt (by omega)))
  have F1313 := F4_0.other W1305 (Or.inl (Nat.ne_of_lt (by omega)))
  have F1314 := F5_0.other W1305 (Or.inl (Nat.ne_of_lt (by omega)))
  have F1315 := F6_0.other W1305 (Or.inl (Nat.ne_of_lt (by omega)))
  have F1316 := F7_0.other W1305 (Or.inl (Nat.ne_of_lt (by omega)))
  have F1317 := F8_0.other W1305 (Or.inl (Nat.ne_of_lt (by omega)))
  have F1318 := F9_0.other W1305 (Or.inl (Nat.ne_of_lt (by omega)))
  have F1319 := F10_0.other W1305 (Or.inl (Nat.ne_of_lt (by omega)))
  have F1320 := F11_0.other W1305 (Or.inl (Nat.ne_of_lt (by omega)))
  have F1321 := F12_0.other W1305 (Or.inl (Nat.ne_of_lt (by omega)))
  have F1322 := F13_0.other W1305 (Or.inl (Nat.ne_of_lt (by omega)))
  have V1323 := V0_0.other W1305 (Nat.ne_of_lt (by omega))
  have V1324 := V1_0.other W1305 (Nat.ne_of_lt (by omega))
  have V1325 := V2_0.other W1305 (Nat.ne_of_lt (by omega))
  have V1326 := V3_0.other W1305 (Nat.ne_of_lt (by omega))
  have V1327 := V4_0.other W1305 (Nat.ne_of_lt (by omega))
  have V1328 := V5_0.other W1305 (Nat.ne_of_lt (by omega))
  have V1329 := V6_0.other W1305 (Nat.ne_of_lt (by omega))
  have V1330 := V8_0.other W1305 (Ne.symm (Nat.ne_of_lt (by omega)))
  have V1331 := V9_0.other W1305 (Ne.symm (Nat.ne_of_lt (by omega)))
  have V1332 := V10_0.other W1305 (Ne.symm (Nat.ne_of_lt (by omega)))
  refine own_aloadN X1305 hx (hb hby d8_32) rfl rfl 33 rfl ?_
  refine own_iloadN X1305 hx (hb hby d8_33) rfl 34 rfl ?_
  refine own_callV X1305 hx hZ hown (own_w hw 82 rfl) (own_w hw 83 rfl) (own_w hw 84 rfl) (own_nfS (own_niS hZ (own_w hw 60 rfl) (own_w hw 59 rfl) rfl)) (own_w hw 85 rfl) (own_w hw 2 rfl) (own_w hw 86 rfl) (by decide) e1305 E1308 (rm19 l Z a0 hw [] a a1_ a2_ a3_ a4_ a5_ a6_ a7_ a8_ a9_ a10_ a11_ va vb vp h1305 n0 Z1307 ga hord ⟨E1308, F1309, F1310, F1311, F1312, F1313, F1314, F1315, F1316, F1317, F1318, F1319, F1320, F1321, F1322, V1323, V1324, V1325, V1326, V1327, V1328, V1329, V1305, V1330, V1331, V1332⟩ hc) (by rw [hml]; rfl) pd_5 (argsL := [(.int (1 : Int32))]) rfl (rest := []) rfl (hb hby d8_34) 0 (Nat.le_of_eq rfl) (by decide) (by decide) (by decide) (by decide) 37 rfl (fun T1373 L1373 v1373 X1373 hQ1373 => ?_)
  obtain ⟨rfl, N1373, Z1373, B1373⟩ := hQ1373
  have N1374 := Fr.app N1306 N1373
  obtain ⟨E1373, F0_1373, F1_1373, F2_1373, F3_1373, F4_1373, F5_1373, F6_1373, F7_1373, F8_1373, F9_1373, F10_1373, F11_1373, F12_1373, F13_1373, V0_1373, V1_1373, V2_1373, V3_1373, V4_1373, V5_1373, V6_1373, V7_1373, V8_1373, V9_1373, V10_1373⟩ := B1373
  show own_Go p e below G (T1373.setTop (mkF m 37 #[.val (.ref a), .val (.int (1 : Int32))] []))
  refine own_return X1373 hx Bd.notSynchronized hG Bd.returns (hb hby d8_37) (by decide) (by decide) ?_
  skip
  exact ⟨rfl, N1374, Z1373, ⟨E1373, F0_1373, F1_1373, F2_1373, F3_1373, F4_1373, F5_1373, F6_1373, F7_1373, F8_1373, F9_1373, F10_1373, F11_1373, F12_1373, F13_1373, V0_1373, V1_1373, V2_1373, V3_1373, V4_1373, V5_1373, V6_1373, V7_1373, V8_1373, V9_1373, V10_1373⟩⟩
def Q24 (Z : State) (a a1_ a2_ a3_ a4_ a5_ a6_ a7_ a8_ a9_ a10_ a11_ : Addr) (va vb vp : Int64) (h0 : Heap) (n0 : Nat) (v : Option Value) (h : Heap) (L : List Loc) : Prop := v = some (.int (0 : Int32)) ∧ Fr n0 L ∧ h = h0
theorem ef_rm24 (m : MethodId) (x0 : Addr) (x1 : Int32) (x2 : Int32) : entryFrame m #[(.ref x0), (.int x1), (.int x2)] 3 = mkF m 0 #[.val (.ref x0), .val (.int x1), .val (.int x2)] [] := by first | (simp [entryFrame, mkF, argsToLocals, Value.category, maxLocals]; done) | rfl
set_option maxRecDepth 65536 in
set_option maxHeartbeats 40000000 in
theorem rm24 (l : Launch) (Z : State) (a0 : Array Value) (hw : ∀ d ∈ tables_1, d.before a0 Z = true) (ws : List Jvm.Cond) (a a1_ a2_ a3_ a4_ a5_ a6_ a7_ a8_ a9_ a10_ a11_ : Addr) (va vb vp : Int64) (h0 : Heap) (n0 : Nat) (Z0 : n0 ≤ h0.size) (ga : n0 ≤ a) (hord : own_Or a a1_ a2_ a3_ a4_ a5_ a6_ a7_ a8_ a9_ a10_ a11_) (B : own_PE Z h0 a a1_ a2_ a3_ a4_ a5_ a6_ a7_ a8_ a9_ a10_ a11_ (0 : Int32) (0 : Int32) (2 : Int32) ((List.replicate 127 (0 : Int32)).set 0 (0 : Int32)) (List.replicate 127 (0 : Int32)) [(0 : Int32), (1 : Int32)] [(1 : Int32), (0 : Int32)] [(-1 : Int32), (-1 : Int32)] [(-1 : Int32), (-1 : Int32)] [(1 : Int32), (1 : Int32)] [va, vb] [vp, vp] [(((0 : Int64) + vp) + (0 : Int64)), (((0 : Int64) + vp) + (0 : Int64))]) (hc : va < vb) :
    MetFree l own_y17 (head1 (Jvm.Cond.code own_y17 prog_66_method_9_code 3 (some .boolean) :: ws) ({ frames := 0, cells := 0, slots := 0, locals := 0 } : Room)) (fun aR U => aR = #[(.ref a), (.int (1 : Int32)), (.int (0 : Int32))] ∧ Z.Warmed39 U.vm ∧ U.heap = h0) (fun _ _ _ _ _ => True) (fun _ U o U' => ∃ v L, o = .returned v ∧ Q24 Z a a1_ a2_ a3_ a4_ a5_ a6_ a7_ a8_ a9_ a10_ a11_ va vb vp h0 n0 v U'.heap L ∧ FrameEnd U o U' L ({ frames := 0, cells := 0, slots := 0, locals := 0 } : Room).cells ({ frames := 0, cells := 0, slots := 0, locals := 0 } : Room).slots) := by
  refine MetFree.of_bodySF pf_17 hisR ?_
  intro p e s m args below meth c s₁ Bd hml0 hP hK
  obtain ⟨rfl, hZ, hhE⟩ := hP
  have hx := Bd.exec
  have hby := Bd.bytes
  have hml : c.maxLocals = 3 := hml0
  have hown : s.vm.findClass "com/example/equitide/equitide/policy/backfilling/PlannedEnds" = some m.cls := findClass_of_methodNamed Bd.named
  have hnm := (name_of_methodNamed Bd.named Bd.method).1
  have X0 : Stand p l e ({ frames := 0, cells := 0, slots := 0, locals := 0 } : Room) s m #[(.ref a), (.int (1 : Int32)), (.int (0 : Int32))] below meth c s₁ [] 0 0 := Stand.of_body Bd
  have e0 : s₁.heap = h0 := by rw [← hhE, Bd.state]; rfl
  have N0 := Fr.nil n0
  show own_Go p e below (own_Post s (Q24 Z a a1_ a2_ a3_ a4_ a5_ a6_ a7_ a8_ a9_ a10_ a11_ va vb vp h0 n0) ({ frames := 0, cells := 0, slots := 0, locals := 0 } : Room).cells ({ frames := 0, cells := 0, slots := 0, locals := 0 } : Room).slots) (s₁.setTop (entryFrame m #[(.ref a), (.int (1 : Int32)), (.int (0 : Int32))] 3))
  rw [ef_rm24]
  generalize hG : own_Post s (Q24 Z a a1_ a2_ a3_ a4_ a5_ a6_ a7_ a8_ a9_ a10_ a11_ va vb vp h0 n0) ({ frames := 0, cells := 0, slots := 0, locals := 0 } : Room).cells ({ frames := 0, cells := 0, slots := 0, locals := 0 } : Room).slots = G
  obtain ⟨o1, o2, o3, o4, o5, o6, o7, o8, o9, o10, o11⟩ := id hord
  obtain ⟨E0, F0_0, F1_0, F2_0, F3_0, F4_0, F5_0, F6_0, F7_0, F8_0, F9_0, F10_0, F11_0, F12_0, F13_0, V0_0, V1_0, V2_0, V3_0, V4_0, V5_0, V6_0, V7_0, V8_0, V9_0, V10_0⟩ := B
  refine own_aloadN X0 hx (hb hby d17_0) rfl rfl 1 rfl ?_
  refine own_getF X0 hx hZ hown (own_w hw 40 rfl) Via.refl e0 F11_0 (hb hby d17_1) 4 rfl (fun T1408 X1408 e1408 => ?_)
  refine own_iloadN X1408 hx (hb hby d17_4) rfl 5 rfl ?_
  refine own_laload X1408 hx hZ e1408 V8_0 1 rfl vb rfl (hb hby d17_5) 6 rfl ?_
  refine own_aloadN X1408 hx (hb hby d17_6) rfl rfl 7 rfl ?_
  refine own_getF X1408 hx hZ hown (own_w hw 40 rfl) Via.refl e1408 F11_0 (hb hby d17_7) 10 rfl (fun T1409 X1409 e1409 => ?_)
  refine own_iloadN X1409 hx (hb hby d17_10) rfl 11 rfl ?_
  refine own_laload X1409 hx hZ e1409 V8_0 0 rfl va rfl (hb hby d17_11) 12 rfl ?_
  refine own_lcmp X1409 hx (hb hby d17_12) 13 rfl ?_
  refine own_ifN X1409 hx (hb hby d17_13) (own_neL (own_lne' hc)).1 16 rfl ?_
  refine own_aloadN X1409 hx (hb hby d17_16) rfl rfl 17 rfl ?_
  refine own_getF X1409 hx hZ hown (own_w hw 40 rfl) Via.refl e1409 F11_0 (hb hby d17_17) 20 rfl (fun T1410 X1410 e1410 => ?_)
  refine own_iloadN X1410 hx (hb hby d17_20) rfl 21 rfl ?_
  refine own_laload X1410 hx hZ e1410 V8_0 1 rfl vb rfl (hb hby d17_21) 22 rfl ?_
  refine own_aloadN X1410 hx (hb hby d17_22) rfl rfl 23 rfl ?_
  refine own_getF X1410 hx hZ hown (own_w hw 40 rfl) Via.refl e1410 F11_0 (hb hby d17_23) 26 rfl (fun T1411 X1411 e1411 => ?_)
  refine own_iloadN X1411 hx (hb hby d17_26) rfl 27 rfl ?_
  refine own_laload X1411 hx hZ e1411 V8_0 0 rfl va rfl (hb hby d17_27) 28 rfl ?_
  refine own_lcmp X1411 hx (hb hby d17_28) 29 rfl ?_
  refine own_ifY X1411 hx (hb hby d17_29) (own_nltL (own_lgt hc)).2 36 ⟨by decide, by decide⟩ ?_
  refine own_iconst X1411 hx (hb hby d17_36) (0 : Int32) rfl 37 rfl ?_
  refine own_goto X1411 hx (hb hby d17_37) 50 ⟨by decide, by decide⟩ ?_
  refine own_nreturn X1411 hx Bd.notSynchronized hG Bd.returns (by simp) (hb hby d17_50) (by decide) (by decide) ?_
  rw [e1411]
  exact ⟨rfl, N0, rfl⟩
def Q23 (Z : State) (a a1_ a2_ a3_ a4_ a5_ a6_ a7_ a8_ a9_ a10_ a11_ : Addr) (va vb vp : Int64) (h0 : Heap) (n0 : Nat) (v : Option Value) (h : Heap) (L : List Loc) : Prop := v = some (.int (1 : Int32)) ∧ Fr n0 L ∧ n0 ≤ h.size ∧ own_PE Z h a a1_ a2_ a3_ a4_ a5_ a6_ a7_ a8_ a9_ a10_ a11_ (0 : Int32) (0 : Int32) (2 : Int32) ((List.replicate 127 (0 : Int32)).set 0 (0 : Int32)) ((List.replicate 127 (0 : Int32)).set 0 (1 : Int32)) [(0 : Int32), (1 : Int32)] [(1 : Int32), (0 : Int32)] [(-1 : Int32), (-1 : Int32)] [(-1 : Int32), (-1 : Int32)] [(1 : Int32), (1 : Int32)] [va, vb] [vp, vp] [(((0 : Int64) + vp) + (0 : Int64)), (((0 : Int64) + vp) + (0 : Int64))]
theorem ef_rm23 (m : MethodId) (x0 : Addr) (x1 : Int32) (x2 : Int32) : entryFrame m #[(.ref x0), (.int x1), (.int x2)] 5 = mkF m 0 #[.val (.ref x0), .val (.int x1), .val (.int x2), .unset, .unset] [] := by first | (simp [entryFrame, mkF, argsToLocals, Value.category, maxLocals]; done) | rfl
set_option maxRecDepth 65536 in
set_option maxHeartbeats 40000000 in
theorem rm23 (l : Launch) (Z : State) (a0 : Array Value) (hw : ∀ d ∈ tables_1, d.before a0 Z = true) (ws : List Jvm.Cond) (a a1_ a2_ a3_ a4_ a5_ a6_ a7_ a8_ a9_ a10_ a11_ : Addr) (va vb vp : Int64) (h0 : Heap) (n0 : Nat) (Z0 : n0 ≤ h0.size) (ga : n0 ≤ a) (hord : own_Or a a1_ a2_ a3_ a4_ a5_ a6_ a7_ a8_ a9_ a10_ a11_) (B : own_PE Z h0 a a1_ a2_ a3_ a4_ a5_ a6_ a7_ a8_ a9_ a10_ a11_ (0 : Int32) (0 : Int32) (2 : Int32) (List.replicate 127 (0 : Int32)) (List.replicate 127 (0 : Int32)) [(0 : Int32), (1 : Int32)] [(1 : Int32), (0 : Int32)] [(-1 : Int32), (-1 : Int32)] [(-1 : Int32), (-1 : Int32)] [(1 : Int32), (1 : Int32)] [va, vb] [vp, vp] [(((0 : Int64) + vp) + (0 : Int64)), (((0 : Int64) + vp) + (0 : Int64))]) (hc : va < vb) :
    MetFree l own_y15 (head1 (Jvm.Cond.code own_y15 prog_49_method_22_code 5 (some .int) :: ws) ({ frames := 1, cells := 0, slots := 0, locals := 16 } : Room)) (fun aR U => aR = #[(.ref a), (.int (1 : Int32)), (.int (-1 : Int32))] ∧ Z.Warmed39 U.vm ∧ U.heap = h0) (fun _ _ _ _ _ => True) (fun _ U o U' => ∃ v L, o = .returned v ∧ Q23 Z a a1_ a2_ a3_ a4_ a5_ a6_ a7_ a8_ a9_ a10_ a11_ va vb vp h0 n0 v U'.heap L ∧ FrameEnd U o U' L ({ frames := 1, cells := 0, slots := 0, locals := 16 } : Room).cells ({ frames := 1, cells := 0, slots := 0, locals := 16 } : Room).slots) := by
  refine MetFree.of_bodySF pf_15 hisR ?_
  intro p e s m args below meth c s₁ Bd hml0 hP hK
  obtain ⟨rfl, hZ, hhE⟩ := hP
  have hx := Bd.exec
  have hby := Bd.bytes
  have hml : c.maxLocals = 5 := hml0
  have hown : s.vm.findClass "com/example/equitide/equitide/policy/backfilling/AvlTree" = some m.cls := findClass_of_methodNamed Bd.named
  have hnm := (name_of_methodNamed Bd.named Bd.method).1
  have X0 : Stand p l e ({ frames := 1, cells := 0, slots := 0, locals := 16 } : Room) s m #[(.ref a), (.int (1 : Int32)), (.int (-1 : Int32))] below meth c s₁ [] 0 0 := Stand.of_body Bd
  have e0 : s₁.heap = h0 := by rw [← hhE, Bd.state]; rfl
  have N0 := Fr.nil n0
  show own_Go p e below (own_Post s (Q23 Z a a1_ a2_ a3_ a4_ a5_ a6_ a7_ a8_ a9_ a10_ a11_ va vb vp h0 n0) ({ frames := 1, cells := 0, slots := 0, locals := 16 } : Room).cells ({ frames := 1, cells := 0, slots := 0, locals := 16 } : Room).slots) (s₁.setTop (entryFrame m #[(.ref a), (.int (1 : Int32)), (.int (-1 : Int32))] 5))
  rw [ef_rm23]
  generalize hG : own_Post s (Q23 Z a a1_ a2_ a3_ a4_ a5_ a6_ a7_ a8_ a9_ a10_ a11_ va vb vp h0 n0) ({ frames := 1, cells := 0, slots := 0, locals := 16 } : Room).cells ({ frames := 1, cells := 0, slots := 0, locals := 16 } : Room).slots = G
  obtain ⟨o1, o2, o3, o4, o5, o6, o7, o8, o9, o10, o11⟩ := id hord
  obtain ⟨E0, F0_0, F1_0, F2_0, F3_0, F4_0, F5_0, F6_0, F7_0, F8_0, F9_0, F10_0, F11_0, F12_0, F13_0, V0_0, V1_0, V2_0, V3_0, V4_0, V5_0, V6_0, V7_0, V8_0, V9_0, V10_0⟩ := B
  refine own_iconst X0 hx (hb hby d15_0) (0 : Int32) rfl 1 rfl ?_
  refine own_istoreN X0 hx (hb hby d15_1) #[.val (.ref a), .val (.int (1 : Int32)), .val (.int (-1 : Int32)), .val (.int (0 : Int32)), .unset] rfl 2 rfl ?_
  refine own_aloadN X0 hx (hb hby d15_2) rfl rfl 3 rfl ?_
  refine own_getF X0 hx hZ hown (own_w hw 14 rfl) Via.refl e0 F0_0 (hb hby d15_3) 6 rfl (fun T1377 X1377 e1377 => ?_)
  refine own_istore X1377 hx (hb hby d15_6) #[.val (.ref a), .val (.int (1 : Int32)), .val (.int (-1 : Int32)), .val (.int (0 : Int32)), .val (.int (0 : Int32))] rfl 8 rfl ?_
  refine own_iload X1377 hx (hb hby d15_8) rfl 10 rfl ?_
  refine own_iloadN X1377 hx (hb hby d15_10) rfl 11 rfl ?_
  refine own_icmpN X1377 hx (hb hby d15_11) (feq (by decide)).1 14 rfl ?_
  refine own_aloadN X1377 hx (hb hby d15_14) rfl rfl 15 rfl ?_
  refine own_getF X1377 hx hZ hown (own_w hw 17 rfl) Via.refl e1377 F3_0 (hb hby d15_15) 18 rfl (fun T1378 X1378 e1378 => ?_)
  refine own_iloadN X1378 hx (hb hby d15_18) rfl 19 rfl ?_
  refine own_iload X1378 hx (hb hby d15_19) rfl 21 rfl ?_
  refine own_iastore X1378 hx hZ e1378 V0_0 0 rfl (by simp) (hb hby d15_21) 22 rfl (fun T1379 h1379 X1379 e1379 W1379 V1379 => ?_)
  have N1380 := Fr.snoc X1379 N0 (by omega)
  have Z1381 : n0 ≤ h1379.size := by rw [W1379.size]; exact Z0
  have E1382 := E0.wr W1379
  have F1383 := F0_0.other W1379 (Or.inl (Nat.ne_of_lt (by omega)))
  have F1384 := F1_0.other W1379 (Or.inl (Nat.ne_of_lt (by omega)))
  have F1385 := F2_0.other W1379 (Or.inl (Nat.ne_of_lt (by omega)))
  have F1386 := F3_0.other W1379 (Or.inl (Nat.ne_of_lt (by omega)))
  have F1387 := F4_0.other W1379 (Or.inl (Nat.ne_of_lt (by omega)))
  have F1388 := F5_0.other W1379 (Or.inl (Nat.ne_of_lt (by omega)))
  have F1389 := F6_0.other W1379 (Or.inl (Nat.ne_of_lt (by omega)))
  have F1390 := F7_0.other W1379 (Or.inl (Nat.ne_of_lt (by omega)))
  have F1391 := F8_0.other W1379 (Or.inl (Nat.ne_of_lt (by omega)))
  have F1392 := F9_0.other W1379 (Or.inl (Nat.ne_of_lt (by omega)))
  have F1393 := F10_0.other W1379 (Or.inl (Nat.ne_of_lt (by omega)))
  have F1394 := F11_0.other W1379 (Or.inl (Nat.ne_of_lt (by omega)))
  have F1395 := F12_0.other W1379 (Or.inl (Nat.ne_of_lt (by omega)))
  have F1396 := F13_0.other W1379 (Or.inl (Nat.ne_of_lt (by omega)))
  have V1397 := V1_0.other W1379 (Ne.symm (Nat.ne_of_lt (by omega)))
  have V1398 := V2_0.other W1379 (Ne.symm (Nat.ne_of_lt (by omega)))
  have V1399 := V3_0.other W1379 (Ne.symm (Nat.ne_of_lt (by omega)))
  have V1400 := V4_0.other W1379 (Ne.symm (Nat.ne_of_lt (by omega)))
  have V1401 := V5_0.other W1379 (Ne.symm (Nat.ne_of_lt (by omega)))
  have V1402 := V6_0.other W1379 (Ne.symm (Nat.ne_of_lt (by omega)))
  have V1403 := V7_0.other W1379 (Ne.symm (Nat.ne_of_lt (by omega)))
  have V1404 := V8_0.other W1379 (Ne.symm (Nat.ne_of_lt (by omega)))
  have V1405 := V9_0.other W1379 (Ne.symm (Nat.ne_of_lt (by omega)))
  have V1406 := V10_0.other W1379 (Ne.symm (Nat.ne_of_lt (by omega)))
  refine own_aloadN X1379 hx (hb hby d15_22) rfl rfl 23 rfl ?_
  refine own_getF X1379 hx hZ hown (own_w hw 19 rfl) Via.refl e1379 F1387 (hb hby d15_23) 26 rfl (fun T1407 X1407 e1407 => ?_)
  refine own_iloadN X1407 hx (hb hby d15_26) rfl 27 rfl ?_
  refine own_aloadN X1407 hx (hb hby d15_27) rfl rfl 28 rfl ?_
  refine own_iloadN X1407 hx (hb hby d15_28) rfl 29 rfl ?_
  refine own_iload X1407 hx (hb hby d15_29) rfl 31 rfl ?_
  refine own_callV X1407 hx hZ hown (own_w hw 111 rfl) (own_w hw 112 rfl) (own_w hw 113 rfl) (own_nfS (own_niS hZ (own_w hw 60 rfl) (own_w hw 59 rfl) rfl)) (own_w hw 114 rfl) (own_w hw 2 rfl) (own_w hw 115 rfl) (by decide) e1407 E1382 (rm24 l Z a0 hw [] a a1_ a2_ a3_ a4_ a5_ a6_ a7_ a8_ a9_ a10_ a11_ va vb vp h1379 n0 Z1381 ga hord ⟨E1382, F1383, F1384, F1385, F1386, F1387, F1388, F1389, F1390, F1391, F1392, F1393, F1394, F1395, F1396, V1379, V1397, V1398, V1399, V1400, V1401, V1402, V1403, V1404, V1405, V1406⟩ hc) (by rw [hml]; rfl) pd_8 (argsL := [(.int (1 : Int32)), (.int (0 : Int32))]) rfl (rest := [(.int (0 : Int32)), (.ref a2_)]) rfl (hb hby d15_31) 2 (Nat.le_of_eq rfl) (by decide) (by decide) (by decide) (by decide) 34 rfl (fun T1412 L1412 v1412 X1412 hQ1412 => ?_)
  obtain ⟨rfl, N1412, e1412⟩ := hQ1412
  have N1413 := Fr.app N1380 N1412
  show own_Go p e below G (T1412.setTop (mkF m 34 #[.val (.ref a), .val (.int (1 : Int32)), .val (.int (-1 : Int32)), .val (.int (0 : Int32)), .val (.int (0 : Int32))] [(.int (0 : Int32)), (.int (0 : Int32)), (.ref a2_)]))
  refine own_ifY X1412 hx (hb hby d15_34) ((if0 _ _).trans (teq (by decide)).1) 41 ⟨by decide, by decide⟩ ?_
  refine own_iconst X1412 hx (hb hby d15_41) (1 : Int32) rfl 42 rfl ?_
  refine own_iastore X1412 hx hZ e1412 V1397 0 rfl (by simp) (hb hby d15_42) 43 rfl (fun T1414 h1414 X1414 e1414 W1414 V1414 => ?_)
  have N1415 := Fr.snoc X1414 N1413 (by omega)
  have Z1416 : n0 ≤ h1414.size := by rw [W1414.size]; exact Z1381
  have E1417 := E1382.wr W1414
  have F1418 := F1383.other W1414 (Or.inl (Nat.ne_of_lt (by omega)))
  have F1419 := F1384.other W1414 (Or.inl (Nat.ne_of_lt (by omega)))
  have F1420 := F1385.other W1414 (Or.inl (Nat.ne_of_lt (by omega)))
  have F1421 := F1386.other W1414 (Or.inl (Nat.ne_of_lt (by omega)))
  have F1422 := F1387.other W1414 (Or.inl (Nat.ne_of_lt (by omega)))
  have F1423 := F1388.other W1414 (Or.inl (Nat.ne_of_lt (by omega)))
  have F1424 := F1389.other W1414 (Or.inl (Nat.ne_of_lt (by omega)))
  have F1425 := F1390.other W1414 (Or.inl (Nat.ne_of_lt (by omega)))
  have F1426 := F1391.other W1414 (Or.inl (Nat.ne_of_lt (by omega)))
  have F1427 := F1392.other W1414 (Or.inl (Nat.ne_of_lt (by omega)))
  have F1428 := F1393.other W1414 (Or.inl (Nat.ne_of_lt (by omega)))
  have F1429 := F1394.other W1414 (Or.inl (Nat.ne_of_lt (by omega)))
  have F1430 := F1395.other W1414 (Or.inl (Nat.ne_of_lt (by omega)))
  have F1431 := F1396.other W1414 (Or.inl (Nat.ne_of_lt (by omega)))
  have V1432 := V1398.other W1414 (Ne.symm (Nat.ne_of_lt (by omega)))
  have V1433 := V1399.other W1414 (Ne.symm (Nat.ne_of_lt (by omega)))
  have V1434 := V1400.other W1414 (Ne.symm (Nat.ne_of_lt (by omega)))
  have V1435 := V1401.other W1414 (Ne.symm (Nat.ne_of_lt (by omega)))
  have V1436 := V1402.other W1414 (Ne.symm (Nat.ne_of_lt (by omega)))
  have V1437 := V1403.other W1414 (Ne.symm (Nat.ne_of_lt (by omega)))
  have V1438 := V1404.other W1414 (Ne.symm (Nat.ne_of_lt (by omega)))
  have V1439 := V1405.other W1414 (Ne.symm (Nat.ne_of_lt (by omega)))
  have V1440 := V1406.other W1414 (Ne.symm (Nat.ne_of_lt (by omega)))
  have V1441 := V1379.other W1414 (Nat.ne_of_lt (by omega))
  refine own_aloadN X1414 hx (hb hby d15_43) rfl rfl 44 rfl ?_
  refine own_getF X1414 hx hZ hown (own_w hw 34 rfl) Via.refl e1414 F1427 (hb hby d15_44) 47 rfl (fun T1442 X1442 e1442 => ?_)
  refine own_aloadN X1442 hx (hb hby d15_47) rfl rfl 48 rfl ?_
  refine own_getF X1442 hx hZ hown (own_w hw 19 rfl) Via.refl e1442 F1422 (hb hby d15_48) 51 rfl (fun T1443 X1443 e1443 => ?_)
  refine own_iloadN X1443 hx (hb hby d15_51) rfl 52 rfl ?_
  refine own_iaload X1443 hx hZ e1443 V1414 0 rfl (1 : Int32) rfl (hb hby d15_52) 53 rfl ?_
  obtain ⟨clk, Ak, Sk, -⟩ := id V1436
  refine own_aaload X1443 hx hZ e1443 Ak rfl (v := .ref a6_) (by rw [Sk]; show ¬ ((1 : Int32) < 0 ∨ 2 ≤ Int32.toNatClampNeg 1); decide) (by rw [Sk]; rfl) (hb hby d15_53) 54 rfl ?_
  refine own_iload X1443 hx (hb hby d15_54) rfl 56 rfl ?_
  refine own_iaload X1443 hx hZ e1443 V1435 0 rfl (-1 : Int32) rfl (hb hby d15_56) 57 rfl ?_
  refine own_istore X1443 hx (hb hby d15_57) #[.val (.ref a), .val (.int (1 : Int32)), .val (.int (-1 : Int32)), .val (.int (0 : Int32)), .val (.int (-1 : Int32))] rfl 59 rfl ?_
  refine own_iinc X1443 hx (hb hby d15_59) rfl #[.val (.ref a), .val (.int (1 : Int32)), .val (.int (-1 : Int32)), .val (.int (1 : Int32)), .val (.int (-1 : Int32))] rfl 62 rfl ?_
  refine own_goto X1443 hx (hb hby d15_62) 8 ⟨by decide, by decide⟩ ?_
  refine own_iload X1443 hx (hb hby d15_8) rfl 10 rfl ?_
  refine own_iloadN X1443 hx (hb hby d15_10) rfl 11 rfl ?_
  refine own_icmpY X1443 hx (hb hby d15_11) (teq (by decide)).1 65 ⟨by decide, by decide⟩ ?_
  refine own_iloadN X1443 hx (hb hby d15_65) rfl 66 rfl ?_
  refine own_ireturn X1443 hx Bd.notSynchronized hG Bd.returns (hb hby d15_66) (by decide) (by decide) ?_
  rw [e1443]
  exact ⟨rfl, N1415, Z1416, ⟨E1417, F1418, F1419, F1420, F1421, F1422, F1423, F1424, F1425, F1426, F1427, F1428, F1429, F1430, F1431, V1441, V1414, V1432, V1433, V1434, V1435, V1436, V1437, V1438, V1439, V1440⟩⟩
def Q27 (Z : State) (a a1_ a2_ a3_ a4_ a5_ a6_ a7_ a8_ a9_ a10_ a11_ : Addr) (va vb vp : Int64) (h0 : Heap) (n0 : Nat) (v : Option Value) (h : Heap) (L : List Loc) : Prop := v = some (.int (0 : Int32)) ∧ Fr n0 L ∧ h = h0
theorem ef_rm27 (m : MethodId) (x0 : Addr) (x1 : Int32) : entryFrame m #[(.ref x0), (.int x1)] 2 = mkF m 0 #[.val (.ref x0), .val (.int x1)] [] := by first | (simp [entryFrame, mkF, argsToLocals, Value.category, maxLocals]; done) | rfl
set_option maxRecDepth 65536 in
set_option maxHeartbeats 40000000 in
theorem rm27 (l : Launch) (Z : State) (a0 : Array Value) (hw : ∀ d ∈ tables_1, d.before a0 Z = true) (ws : List Jvm.Cond) (a a1_ a2_ a3_ a4_ a5_ a6_ a7_ a8_ a9_ a10_ a11_ : Addr) (va vb vp : Int64) (h0 : Heap) (n0 : Nat) (Z0 : n0 ≤ h0.size) (ga : n0 ≤ a) (hord : own_Or a a1_ a2_ a3_ a4_ a5_ a6_ a7_ a8_ a9_ a10_ a11_) (B : own_PE Z h0 a a1_ a2_ a3_ a4_ a5_ a6_ a7_ a8_ a9_ a10_ a11_ (0 : Int32) (0 : Int32) (2 : Int32) ((List.replicate 127 (0 : Int32)).set 0 (0 : Int32)) ((List.replicate 127 (0 : Int32)).set 0 (1 : Int32)) [(0 : Int32), (1 : Int32)] [(1 : Int32), (0 : Int32)] [(-1 : Int32), (-1 : Int32)] [(1 : Int32), (-1 : Int32)] [(1 : Int32), (1 : Int32)] [va, vb] [vp, vp] [(((0 : Int64) + vp) + (0 : Int64)), (((0 : Int64) + vp) + (0 : Int64))]) (hc : va < vb) :
    MetFree l own_y9 (head1 (Jvm.Cond.code own_y9 prog_49_method_28_code 2 (some .int) :: ws) ({ frames := 0, cells := 0, slots := 0, locals := 0 } : Room)) (fun aR U => aR = #[(.ref a), (.int (-1 : Int32))] ∧ Z.Warmed39 U.vm ∧ U.heap = h0) (fun _ _ _ _ _ => True) (fun _ U o U' => ∃ v L, o = .returned v ∧ Q27 Z a a1_ a2_ a3_ a4_ a5_ a6_ a7_ a8_ a9_ a10_ a11_ va vb vp h0 n0 v U'.heap L ∧ FrameEnd U o U' L ({ frames := 0, cells := 0, slots := 0, locals := 0 } : Room).cells ({ frames := 0, cells := 0, slots := 0, locals := 0 } : Room).slots) := by
  refine MetFree.of_bodySF pf_9 hisR ?_
  intro p e s m args below meth c s₁ Bd hml0 hP hK
  obtain ⟨rfl, hZ, hhE⟩ := hP
  have hx := Bd.exec
  have hby := Bd.bytes
  have hml : c.maxLocals = 2 := hml0
  have hown : s.vm.findClass "com/example/equitide/equitide/policy/backfilling/AvlTree" = some m.cls := findClass_of_methodNamed Bd.named
  have hnm := (name_of_methodNamed Bd.named Bd.method).1
  have X0 : Stand p l e ({ frames := 0, cells := 0, slots := 0, locals := 0 } : Room) s m #[(.ref a), (.int (-1 : Int32))] below meth c s₁ [] 0 0 := Stand.of_body Bd
  have e0 : s₁.heap = h0 := by rw [← hhE, Bd.state]; rfl
  have N0 := Fr.nil n0
  show own_Go p e below (own_Post s (Q27 Z a a1_ a2_ a3_ a4_ a5_ a6_ a7_ a8_ a9_ a10_ a11_ va vb vp h0 n0) ({ frames := 0, cells := 0, slots := 0, locals := 0 } : Room).cells ({ frames := 0, cells := 0, slots := 0, locals := 0 } : Room).slots) (s₁.setTop (entryFrame m #[(.ref a), (.int (-1 : Int32))] 2))
  rw [ef_rm27]
  generalize hG : own_Post s (Q27 Z a a1_ a2_ a3_ a4_ a5_ a6_ a7_ a8_ a9_ a10_ a11_ va vb vp h0 n0) ({ frames := 0, cells := 0, slots := 0, locals := 0 } : Room).cells ({ frames := 0, cells := 0, slots := 0, locals := 0 } : Room).slots = G
  obtain ⟨o1, o2, o3, o4, o5, o6, o7, o8, o9, o10, o11⟩ := id hord
  obtain ⟨E0, F0_0, F1_0, F2_0, F3_0, F4_0, F5_0, F6_0, F7_0, F8_0, F9_0, F10_0, F11_0, F12_0, F13_0, V0_0, V1_0, V2_0, V3_0, V4_0, V5_0, V6_0, V7_0, V8_0, V9_0, V10_0⟩ := B
  refine own_iloadN X0 hx (hb hby d9_0) rfl 1 rfl ?_
  refine own_iconst X0 hx (hb hby d9_1) (-1 : Int32) rfl 2 rfl ?_
  refine own_icmpN X0 hx (hb hby d9_2) (teq (by decide)).2 5 rfl ?_
  refine own_iconst X0 hx (hb hby d9_5) (0 : Int32) rfl 6 rfl ?_
  refine own_goto X0 hx (hb hby d9_6) 15 ⟨by decide, by decide⟩ ?_
  refine own_ireturn X0 hx Bd.notSynchronized hG Bd.returns (hb hby d9_15) (by decide) (by decide) ?_
  rw [e0]
  exact ⟨rfl, N0, rfl⟩
def Q28 (Z : State) (a a1_ a2_ a3_ a4_ a5_ a6_ a7_ a8_ a9_ a10_ a11_ : Addr) (va vb vp : Int64) (h0 : Heap) (n0 : Nat) (v : Option Value) (h : Heap) (L : List Loc) : Prop := v = some (.int (1 : Int32)) ∧ Fr n0 L ∧ h = h0
theorem ef_rm28 (m : MethodId) (x0 : Addr) (x1 : Int32) : entryFrame m #[(.ref x0), (.int x1)] 2 = mkF m 0 #[.val (.ref x0), .val (.int x1)] [] := by first | (simp [entryFrame, mkF, argsToLocals, Value.category, maxLocals]; done) | rfl
set_option maxRecDepth 65536 in
set_option maxHeartbeats 40000000 in
theorem rm28 (l : Launch) (Z : State) (a0 : Array Value) (hw : ∀ d ∈ tables_1, d.before a0 Z = true) (ws : List Jvm.Cond) (a a1_ a2_ a3_ a4_ a5_ a6_ a7_ a8_ a9_ a10_ a11_ : Addr) (va vb vp : Int64) (h0 : Heap) (n0 : Nat) (Z0 : n0 ≤ h0.size) (ga : n0 ≤ a) (hord : own_Or a a1_ a2_ a3_ a4_ a5_ a6_ a7_ a8_ a9_ a10_ a11_) (B : own_PE Z h0 a a1_ a2_ a3_ a4_ a5_ a6_ a7_ a8_ a9_ a10_ a11_ (0 : Int32) (0 : Int32) (2 : Int32) ((List.replicate 127 (0 : Int32)).set 0 (0 : Int32)) ((List.replicate 127 (0 : Int32)).set 0 (1 : Int32)) [(0 : Int32), (1 : Int32)] [(1 : Int32), (0 : Int32)] [(-1 : Int32), (-1 : Int32)] [(1 : Int32), (-1 : Int32)] [(1 : Int32), (1 : Int32)] [va, vb] [vp, vp] [(((0 : Int64) + vp) + (0 : Int64)), (((0 : Int64) + vp) + (0 : Int64))]) (hc : va < vb) :
    MetFree l own_y9 (head1 (Jvm.Cond.code own_y9 prog_49_method_28_code 2 (some .int) :: ws) ({ frames := 0, cells := 0, slots := 0, locals := 0 } : Room)) (fun aR U => aR = #[(.ref a), (.int (1 : Int32))] ∧ Z.Warmed39 U.vm ∧ U.heap = h0) (fun _ _ _ _ _ => True) (fun _ U o U' => ∃ v L, o = .returned v ∧ Q28 Z a a1_ a2_ a3_ a4_ a5_ a6_ a7_ a8_ a9_ a10_ a11_ va vb vp h0 n0 v U'.heap L ∧ FrameEnd U o U' L ({ frames := 0, cells := 0, slots := 0, locals := 0 } : Room).cells ({ frames := 0, cells := 0, slots := 0, locals := 0 } : Room).slots) := by
  refine MetFree.of_bodySF pf_9 hisR ?_
  intro p e s m args below meth c s₁ Bd hml0 hP hK
  obtain ⟨rfl, hZ, hhE⟩ := hP
  have hx := Bd.exec
  have hby := Bd.bytes
  have hml : c.maxLocals = 2 := hml0
  have hown : s.vm.findClass "com/example/equitide/equitide/policy/backfilling/AvlTree" = some m.cls := findClass_of_methodNamed Bd.named
  have hnm := (name_of_methodNamed Bd.named Bd.method).1
  have X0 : Stand p l e ({ frames := 0, cells := 0, slots := 0, locals := 0 } : Room) s m #[(.ref a), (.int (1 : Int32))] below meth c s₁ [] 0 0 := Stand.of_body Bd
  have e0 : s₁.heap = h0 := by rw [← hhE, Bd.state]; rfl
  have N0 := Fr.nil n0
  show own_Go p e below (own_Post s (Q28 Z a a1_ a2_ a3_ a4_ a5_ a6_ a7_ a8_ a9_ a10_ a11_ va vb vp h0 n0) ({ frames := 0, cells := 0, slots := 0, locals := 0 } : Room).cells ({ frames := 0, cells := 0, slots := 0, locals := 0 } : Room).slots) (s₁.setTop (entryFrame m #[(.ref a), (.int (1 : Int32))] 2))
  rw [ef_rm28]
  generalize hG : own_Post s (Q28 Z a a1_ a2_ a3_ a4_ a5_ a6_ a7_ a8_ a9_ a10_ a11_ va vb vp h0 n0) ({ frames := 0, cells := 0, slots := 0, locals := 0 } : Room).cells ({ frames := 0, cells := 0, slots := 0, locals := 0 } : Room).slots = G
  obtain ⟨o1, o2, o3, o4, o5, o6, o7, o8, o9, o10, o11⟩ := id hord
  obtain ⟨E0, F0_0, F1_0, F2_0, F3_0, F4_0, F5_0, F6_0, F7_0, F8_0, F9_0, F10_0, F11_0, F12_0, F13_0, V0_0, V1_0, V2_0, V3_0, V4_0, V5_0, V6_0, V7_0, V8_0, V9_0, V10_0⟩ := B
  refine own_iloadN X0 hx (hb hby d9_0) rfl 1 rfl ?_
  refine own_iconst X0 hx (hb hby d9_1) (-1 : Int32) rfl 2 rfl ?_
  refine own_icmpY X0 hx (hb hby d9_2) (feq (by decide)).2 9 ⟨by decide, by decide⟩ ?_
  refine own_aloadN X0 hx (hb hby d9_9) rfl rfl 10 rfl ?_
  refine own_getF X0 hx hZ hown (own_w hw 37 rfl) Via.refl e0 F10_0 (hb hby d9_10) 13 rfl (fun T1482 X1482 e1482 => ?_)
  refine own_iloadN X1482 hx (hb hby d9_13) rfl 14 rfl ?_
  refine own_baload X1482 hx hZ e1482 V7_0 1 rfl (1 : Int32) rfl (hb hby d9_14) 15 rfl ?_
  refine own_ireturn X1482 hx Bd.notSynchronized hG Bd.returns (hb hby d9_15) (by decide) (by decide) ?_
  rw [e1482]
  exact ⟨rfl, N0, rfl⟩
def Q31 (Z : State) (a a1_ a2_ a3_ a4_ a5_ a6_ a7_ a8_ a9_ a10_ a11_ : Addr) (va vb vp : Int64) (h0 : Heap) (n0 : Nat) (v : Option Value) (h : Heap) (L : List Loc) : Prop := v = some (.int (-1 : Int32)) ∧ Fr n0 L ∧ h = h0
theorem ef_rm31 (m : MethodId) (x0 : Addr) (x1 : Int32) : entryFrame m #[(.ref x0), (.int x1)] 2 = mkF m 0 #[.val (.ref x0), .val (.int x1)] [] := by first | (simp [entryFrame, mkF, argsToLocals, Value.category, maxLocals]; done) | rfl
set_option maxRecDepth 65536 in
set_option maxHeartbeats 40000000 in
theorem rm31 (l : Launch) (Z : State) (a0 : Array Value) (hw : ∀ d ∈ tables_1, d.before a0 Z = true) (ws : List Jvm.Cond) (a a1_ a2_ a3_ a4_ a5_ a6_ a7_ a8_ a9_ a10_ a11_ : Addr) (va vb vp : Int64) (h0 : Heap) (n0 : Nat) (Z0 : n0 ≤ h0.size) (ga : n0 ≤ a) (hord : own_Or a a1_ a2_ a3_ a4_ a5_ a6_ a7_ a8_ a9_ a10_ a11_) (B : own_PE Z h0 a a1_ a2_ a3_ a4_ a5_ a6_ a7_ a8_ a9_ a10_ a11_ (0 : Int32) (0 : Int32) (2 : Int32) ((List.replicate 127 (0 : Int32)).set 0 (0 : Int32)) ((List.replicate 127 (0 : Int32)).set 0 (1 : Int32)) [(0 : Int32), (1 : Int32)] [(1 : Int32), (0 : Int32)] [(-1 : Int32), (-1 : Int32)] [(1 : Int32), (-1 : Int32)] [(2 : Int32), (1 : Int32)] [va, vb] [vp, vp] [(((0 : Int64) + vp) + (0 : Int64)), (((0 : Int64) + vp) + (0 : Int64))]) (hc : va < vb) :
    MetFree l own_y12 (head1 (Jvm.Cond.code own_y12 prog_49_method_7_code 2 (some .int) :: ws) ({ frames := 0, cells := 0, slots := 0, locals := 0 } : Room)) (fun aR U => aR = #[(.ref a), (.int (0 : Int32))] ∧ Z.Warmed39 U.vm ∧ U.heap = h0) (fun _ _ _ _ _ => True) (fun _ U o U' => ∃ v L, o = .returned v ∧ Q31 Z a a1_ a2_ a3_ a4_ a5_ a6_ a7_ a8_ a9_ a10_ a11_ va vb vp h0 n0 v U'.heap L ∧ FrameEnd U o U' L ({ frames := 0, cells := 0, slots := 0, locals := 0 } : Room).cells ({ frames := 0, cells := 0, slots := 0, locals := 0 } : Room).slots) := by
  refine MetFree.of_bodySF pf_12 hisR ?_
  intro p e s m args below meth c s₁ Bd hml0 hP hK
  obtain ⟨rfl, hZ, hhE⟩ := hP
  have hx := Bd.exec
  have hby := Bd.bytes
  have hml : c.maxLocals = 2 := hml0
  have hown : s.vm.findClass "com/example/equitide/equitide/policy/backfilling/AvlTree" = some m.cls := findClass_of_methodNamed Bd.named
  have hnm := (name_of_methodNamed Bd.named Bd.method).1
  have X0 : Stand p l e ({ frames := 0, cells := 0, slots := 0, locals := 0 } : Room) s m #[(.ref a), (.int (0 : Int32))] below meth c s₁ [] 0 0 := Stand.of_body Bd
  have e0 : s₁.heap = h0 := by rw [← hhE, Bd.state]; rfl
  have N0 := Fr.nil n0
  show own_Go p e below (own_Post s (Q31 Z a a1_ a2_ a3_ a4_ a5_ a6_ a7_ a8_ a9_ a10_ a11_ va vb vp h0 n0) ({ frames := 0, cells := 0, slots := 0, locals := 0 } : Room).cells ({ frames := 0, cells := 0, slots := 0, locals := 0 } : Room).slots) (s₁.setTop (entryFrame m #[(.ref a), (.int (0 : Int32))] 2))
  rw [ef_rm31]
  generalize hG : own_Post s (Q31 Z a a1_ a2_ a3_ a4_ a5_ a6_ a7_ a8_ a9_ a10_ a11_ va vb vp h0 n0) ({ frames := 0, cells := 0, slots := 0, locals := 0 } : Room).cells ({ frames := 0, cells := 0, slots := 0, locals := 0 } : Room).slots = G
  obtain ⟨o1, o2, o3, o4, o5, o6, o7, o8, o9, o10, o11⟩ := id hord
  obtain ⟨E0, F0_0, F1_0, F2_0, F3_0, F4_0, F5_0, F6_0, F7_0, F8_0, F9_0, F10_0, F11_0, F12_0, F13_0, V0_0, V1_0, V2_0, V3_0, V4_0, V5_0, V6_0, V7_0, V8_0, V9_0, V10_0⟩ := B
  refine own_aloadN X0 hx (hb hby d12_0) rfl rfl 1 rfl ?_
  refine own_getF X0 hx hZ hown (own_w hw 27 rfl) Via.refl e0 F7_0 (hb hby d12_1) 4 rfl (fun T1523 X1523 e1523 => ?_)
  refine own_iloadN X1523 hx (hb hby d12_4) rfl 5 rfl ?_
  refine own_iaload X1523 hx hZ e1523 V4_0 0 rfl (-1 : Int32) rfl (hb hby d12_5) 6 rfl ?_
  refine own_ireturn X1523 hx Bd.notSynchronized hG Bd.returns (hb hby d12_6) (by decide) (by decide) ?_
  rw [e1523]
  exact ⟨rfl, N0, rfl⟩
def Q32 (Z : State) (a a1_ a2_ a3_ a4_ a5_ a6_ a7_ a8_ a9_ a10_ a11_ : Addr) (va vb vp : Int64) (h0 : Heap) (n0 : Nat) (v : Option Value) (h : Heap) (L : List Loc) : Prop := v = some (.long (0 : Int64)) ∧ Fr n0 L ∧ h = h0
theorem ef_rm32 (m : MethodId) (x0 : Addr) (x1 : Int32) : entryFrame m #[(.ref x0), (.int x1)] 2 = mkF m 0 #[.val (.ref x0), .val (.int x1)] [] := by first | (simp [entryFrame, mkF, argsToLocals, Value.category, maxLocals]; done) | rfl
set_option maxRecDepth 65536 in
set_option maxHeartbeats 40000000 in
theorem rm32 (l : Launch) (Z : State) (a0 : Array Value) (hw : ∀ d ∈ tables_1, d.before a0 Z = true) (ws : List Jvm.Cond) (a a1_ a2_ a3_ a4_ a5_ a6_ a7_ a8_ a9_ a10_ a11_ : Addr) (va vb vp : Int64) (h0 : Heap) (n0 : Nat) (Z0 : n0 ≤ h0.size) (ga : n0 ≤ a) (hord : own_Or a a1_ a2_ a3_ a4_ a5_ a6_ a7_ a8_ a9_ a10_ a11_) (B : own_PE Z h0 a a1_ a2_ a3_ a4_ a5_ a6_ a7_ a8_ a9_ a10_ a11_ (0 : Int32) (0 : Int32) (2 : Int32) ((List.replicate 127 (0 : Int32)).set 0 (0 : Int32)) ((List.replicate 127 (0 : Int32)).set 0 (1 : Int32)) [(0 : Int32), (1 : Int32)] [(1 : Int32), (0 : Int32)] [(-1 : Int32), (-1 : Int32)] [(1 : Int32), (-1 : Int32)] [(2 : Int32), (1 : Int32)] [va, vb] [vp, vp] [(((0 : Int64) + vp) + (0 : Int64)), (((0 : Int64) + vp) + (0 : Int64))]) (hc : va < vb) :
    MetFree l own_y13 (head1 (Jvm.Cond.code own_y13 prog_66_method_10_code 2 (some .long) :: ws) ({ frames := 0, cells := 0, slots := 0, locals := 0 } : Room)) (fun aR U => aR = #[(.ref a), (.int (-1 : Int32))] ∧ Z.Warmed39 U.vm ∧ U.heap = h0) (fun _ _ _ _ _ => True) (fun _ U o U' => ∃ v L, o = .returned v ∧ Q32 Z a a1_ a2_ a3_ a4_ a5_ a6_ a7_ a8_ a9_ a10_ a11_ va vb vp h0 n0 v U'.heap L ∧ FrameEnd U o U' L ({ frames := 0, cells := 0, slots := 0, locals := 0 } : Room).cells ({ frames := 0, cells := 0, slots := 0, locals := 0 } : Room).slots) := by
  refine MetFree.of_bodySF pf_13 hisR ?_
  intro p e s m args below meth c s₁ Bd hml0 hP hK
  obtain ⟨rfl, hZ, hhE⟩ := hP
  have hx := Bd.exec
  have hby := Bd.bytes
  have hml : c.maxLocals = 2 := hml0
  have hown : s.vm.findClass "com/example/equitide/equitide/policy/backfilling/PlannedEnds" = some m.cls := findClass_of_methodNamed Bd.named
  have hnm := (name_of_methodNamed Bd.named Bd.method).1
  have X0 : Stand p l e ({ frames := 0, cells := 0, slots := 0, locals := 0 } : Room) s m #[(.ref a), (.int (-1 : Int32))] below meth c s₁ [] 0 0 := Stand.of_body Bd
  have e0 : s₁.heap = h0 := by rw [← hhE, Bd.state]; rfl
  have N0 := Fr.nil n0
  show own_Go p e below (own_Post s (Q32 Z a a1_ a2_ a3_ a4_ a5_ a6_ a7_ a8_ a9_ a10_ a11_ va vb vp h0 n0) ({ frames := 0, cells := 0, slots := 0, locals := 0 } : Room).cells ({ frames := 0, cells := 0, slots := 0, locals := 0 } : Room).slots) (s₁.setTop (entryFrame m #[(.ref a), (.int (-1 : Int32))] 2))
  rw [ef_rm32]
  generalize hG : own_Post s (Q32 Z a a1_ a2_ a3_ a4_ a5_ a6_ a7_ a8_ a9_ a10_ a11_ va vb vp h0 n0) ({ frames := 0, cells := 0, slots := 0, locals := 0 } : Room).cells ({ frames := 0, cells := 0, slots := 0, locals := 0 } : Room).slots = G
  obtain ⟨o1, o2, o3, o4, o5, o6, o7, o8, o9, o10, o11⟩ := id hord
  obtain ⟨E0, F0_0, F1_0, F2_0, F3_0, F4_0, F5_0, F6_0, F7_0, F8_0, F9_0, F10_0, F11_0, F12_0, F13_0, V0_0, V1_0, V2_0, V3_0, V4_0, V5_0, V6_0, V7_0, V8_0, V9_0, V10_0⟩ := B
  refine own_iloadN X0 hx (hb hby d13_0) rfl 1 rfl ?_
  refine own_iconst X0 hx (hb hby d13_1) (-1 : Int32) rfl 2 rfl ?_
  refine own_icmpN X0 hx (hb hby d13_2) (teq (by decide)).2 5 rfl ?_
  refine own_lconst X0 hx (hb hby d13_5) (0 : Int64) rfl 6 rfl ?_
  refine own_goto X0 hx (hb hby d13_6) 15 ⟨by decide, by decide⟩ ?_
  refine own_lreturn X0 hx Bd.notSynchronized hG Bd.returns (hb hby d13_15) (by decide) (by decide) ?_
  rw [e0]
  exact ⟨rfl, N0, rfl⟩
def Q33 (Z : State) (a a1_ a2_ a3_ a4_ a5_ a6_ a7_ a8_ a9_ a10_ a11_ : Addr) (va vb vp : Int64) (h0 : Heap) (n0 : Nat) (v : Option Value) (h : Heap) (L : List Loc) : Prop := v = some (.int (1 : Int32)) ∧ Fr n0 L ∧ h = h0
theorem ef_rm33 (m : MethodId) (x0 : Addr) (x1 : Int32) : entryFrame m #[(.ref x0), (.int x1)] 2 = mkF m 0 #[.val (.ref x0), .val (.int x1)] [] := by first | (simp [entryFrame, mkF, argsToLocals, Value.category, maxLocals]; done) | rfl
set_option maxRecDepth 65536 in
set_option maxHeartbeats 40000000 in
theorem rm33 (l : Launch) (Z : State) (a0 : Array Value) (hw : ∀ d ∈ tables_1, d.before a0 Z = true) (ws : List Jvm.Cond) (a a1_ a2_ a3_ a4_ a5_ a6_ a7_ a8_ a9_ a10_ a11_ : Addr) (va vb vp : Int64) (h0 : Heap) (n0 : Nat) (Z0 : n0 ≤ h0.size) (ga : n0 ≤ a) (hord : own_Or a a1_ a2_ a3_ a4_ a5_ a6_ a7_ a8_ a9_ a10_ a11_) (B : own_PE Z h0 a a1_ a2_ a3_ a4_ a5_ a6_ a7_ a8_ a9_ a10_ a11_ (0 : Int32) (0 : Int32) (2 : Int32) ((List.replicate 127 (0 : Int32)).set 0 (0 : Int32)) ((List.replicate 127 (0 : Int32)).set 0 (1 : Int32)) [(0 : Int32), (1 : Int32)] [(1 : Int32), (0 : Int32)] [(-1 : Int32), (-1 : Int32)] [(1 : Int32), (-1 : Int32)] [(2 : Int32), (1 : Int32)] [va, vb] [vp, vp] [(((0 : Int64) + vp) + (0 : Int64)), (((0 : Int64) + vp) + (0 : Int64))]) (hc : va < vb) :
    MetFree l own_y14 (head1 (Jvm.Cond.code own_y14 prog_49_method_8_code 2 (some .int) :: ws) ({ frames := 0, cells := 0, slots := 0, locals := 0 } : Room)) (fun aR U => aR = #[(.ref a), (.int (0 : Int32))] ∧ Z.Warmed39 U.vm ∧ U.heap = h0) (fun _ _ _ _ _ => True) (fun _ U o U' => ∃ v L, o = .returned v ∧ Q33 Z a a1_ a2_ a3_ a4_ a5_ a6_ a7_ a8_ a9_ a10_ a11_ va vb vp h0 n0 v U'.heap L ∧ FrameEnd U o U' L ({ frames := 0, cells := 0, slots := 0, locals := 0 } : Room).cells ({ frames := 0, cells := 0, slots := 0, locals := 0 } : Room).slots) := by
  refine MetFree.of_bodySF pf_14 hisR ?_
  intro p e s m args below meth c s₁ Bd hml0 hP hK
  obtain ⟨rfl, hZ, hhE⟩ := hP
  have hx := Bd.exec
  have hby := Bd.bytes
  have hml : c.maxLocals = 2 := hml0
  have hown : s.vm.findClass "com/example/equitide/equitide/policy/backfilling/AvlTree" = some m.cls := findClass_of_methodNamed Bd.named
  have hnm := (name_of_methodNamed Bd.named Bd.method).1
  have X0 : Stand p l e ({ frames := 0, cells := 0, slots := 0, locals := 0 } : Room) s m #[(.ref a), (.int (0 : Int32))] below meth c s₁ [] 0 0 := Stand.of_body Bd
  have e0 : s₁.heap = h0 := by rw [← hhE, Bd.state]; rfl
  have N0 := Fr.nil n0
  show own_Go p e below (own_Post s (Q33 Z a a1_ a2_ a3_ a4_ a5_ a6_ a7_ a8_ a9_ a10_ a11_ va vb vp h0 n0) ({ frames := 0, cells := 0, slots := 0, locals := 0 } : Room).cells ({ frames := 0, cells := 0, slots := 0, locals := 0 } : Room).slots) (s₁.setTop (entryFrame m #[(.ref a), (.int (0 : Int32))] 2))
  rw [ef_rm33]
  generalize hG : own_Post s (Q33 Z a a1_ a2_ a3_ a4_ a5_ a6_ a7_ a8_ a9_ a10_ a11_ va vb vp h0 n0) ({ frames := 0, cells := 0, slots := 0, locals := 0 } : Room).cells ({ frames := 0, cells := 0, slots := 0, locals := 0 } : Room).slots = G
  obtain ⟨o1, o2, o3, o4, o5, o6, o7, o8, o9, o10, o11⟩ := id hord
  obtain ⟨E0, F0_0, F1_0, F2_0, F3_0, F4_0, F5_0, F6_0, F7_0, F8_0, F9_0, F10_0, F11_0, F12_0, F13_0, V0_0, V1_0, V2_0, V3_0, V4_0, V5_0, V6_0, V7_0, V8_0, V9_0, V10_0⟩ := B
  refine own_aloadN X0 hx (hb hby d14_0) rfl rfl 1 rfl ?_
  refine own_getF X0 hx hZ hown (own_w hw 29 rfl) Via.refl e0 F8_0 (hb hby d14_1) 4 rfl (fun T1529 X1529 e1529 => ?_)
  refine own_iloadN X1529 hx (hb hby d14_4) rfl 5 rfl ?_
  refine own_iaload X1529 hx hZ e1529 V5_0 0 rfl (1 : Int32) rfl (hb hby d14_5) 6 rfl ?_
  refine own_ireturn X1529 hx Bd.notSynchronized hG Bd.returns (hb hby d14_6) (by decide) (by decide) ?_
  rw [e1529]
  exact ⟨rfl, N0, rfl⟩
def Q34 (Z : State) (a a1_ a2_ a3_ a4_ a5_ a6_ a7_ a8_ a9_ a10_ a11_ : Addr) (va vb vp : Int64) (h0 : Heap) (n0 : Nat) (v : Option Value) (h : Heap) (L : List Loc) : Prop := v = some (.long (((0 : Int64) + vp) + (0 : Int64))) ∧ Fr n0 L ∧ h = h0
theorem ef_rm34 (m : MethodId) (x0 : Addr) (x1 : Int32) : entryFrame m #[(.ref x0), (.int x1)] 2 = mkF m 0 #[.val (.ref x0), .val (.int x1)] [] := by first | (simp [entryFrame, mkF, argsToLocals, Value.category, maxLocals]; done) | rfl
set_option maxRecDepth 65536 in
set_option maxHeartbeats 40000000 in
theorem rm34 (l : Launch) (Z : State) (a0 : Array Value) (hw : ∀ d ∈ tables_1, d.before a0 Z = true) (ws : List Jvm.Cond) (a a1_ a2_ a3_ a4_ a5_ a6_ a7_ a8_ a9_ a10_ a11_ : Addr) (va vb vp : Int64) (h0 : Heap) (n0 : Nat) (Z0 : n0 ≤ h0.size) (ga : n0 ≤ a) (hord : own_Or a a1_ a2_ a3_ a4_ a5_ a6_ a7_ a8_ a9_ a10_ a11_) (B : own_PE Z h0 a a1_ a2_ a3_ a4_ a5_ a6_ a7_ a8_ a9_ a10_ a11_ (0 : Int32) (0 : Int32) (2 : Int32) ((List.replicate 127 (0 : Int32)).set 0 (0 : Int32)) ((List.replicate 127 (0 : Int32)).set 0 (1 : Int32)) [(0 : Int32), (1 : Int32)] [(1 : Int32), (0 : Int32)] [(-1 : Int32), (-1 : Int32)] [(1 : Int32), (-1 : Int32)] [(2 : Int32), (1 : Int32)] [va, vb] [vp, vp] [(((0 : Int64) + vp) + (0 : Int64)), (((0 : Int64) + vp) + (0 : Int64))]) (hc : va < vb) :
    MetFree l own_y13 (head1 (Jvm.Cond.code own_y13 prog_66_method_10_code 2 (some .long) :: ws) ({ frames := 0, cells := 0, slots := 0, locals := 0 } : Room)) (fun aR U => aR = #[(.ref a), (.int (1 : Int32))] ∧ Z.Warmed39 U.vm ∧ U.heap = h0) (fun _ _ _ _ _ => True) (fun _ U o U' => ∃ v L, o = .returned v ∧ Q34 Z a a1_ a2_ a3_ a4_ a5_ a6_ a7_ a8_ a9_ a10_ a11_ va vb vp h0 n0 v U'.heap L ∧ FrameEnd U o U' L ({ frames := 0, cells := 0, slots := 0, locals := 0 } : Room).cells ({ frames := 0, cells := 0, slots := 0, locals := 0 } : Room).slots) := by
  refine MetFree.of_bodySF pf_13 hisR ?_
  intro p e s m args below meth c s₁ Bd hml0 hP hK
  obtain ⟨rfl, hZ, hhE⟩ := hP
  have hx := Bd.exec
  have hby := Bd.bytes
  have hml : c.maxLocals = 2 := hml0
  have hown : s.vm.findClass "com/example/equitide/equitide/policy/backfilling/PlannedEnds" = some m.cls := findClass_of_methodNamed Bd.named
  have hnm := (name_of_methodNamed Bd.named Bd.method).1
  have X0 : Stand p l e ({ frames := 0, cells := 0, slots := 0, locals := 0 } : Room) s m #[(.ref a), (.int (1 : Int32))] below meth c s₁ [] 0 0 := Stand.of_body Bd
  have e0 : s₁.heap = h0 := by rw [← hhE, Bd.state]; rfl
  have N0 := Fr.nil n0
  show own_Go p e below (own_Post s (Q34 Z a a1_ a2_ a3_ a4_ a5_ a6_ a7_ a8_ a9_ a10_ a11_ va vb vp h0 n0) ({ frames := 0, cells := 0, slots := 0, locals := 0 } : Room).cells ({ frames := 0, cells := 0, slots := 0, locals := 0 } : Room).slots) (s₁.setTop (entryFrame m #[(.ref a), (.int (1 : Int32))] 2))
  rw [ef_rm34]
  generalize hG : own_Post s (Q34 Z a a1_ a2_ a3_ a4_ a5_ a6_ a7_ a8_ a9_ a10_ a11_ va vb vp h0 n0) ({ frames := 0, cells := 0, slots := 0, locals := 0 } : Room).cells ({ frames := 0, cells := 0, slots := 0, locals := 0 } : Room).slots = G
  obtain ⟨o1, o2, o3, o4, o5, o6, o7, o8, o9, o10, o11⟩ := id hord
  obtain ⟨E0, F0_0, F1_0, F2_0, F3_0, F4_0, F5_0, F6_0, F7_0, F8_0, F9_0, F10_0, F11_0, F12_0, F13_0, V0_0, V1_0, V2_0, V3_0, V4_0, V5_0, V6_0, V7_0, V8_0, V9_0, V10_0⟩ := B
  refine own_iloadN X0 hx (hb hby d13_0) rfl 1 rfl ?_
  refine own_iconst X0 hx (hb hby d13_1) (-1 : Int32) rfl 2 rfl ?_
  refine own_icmpY X0 hx (hb hby d13_2) (feq (by decide)).2 9 ⟨by decide, by decide⟩ ?_
  refine own_aloadN X0 hx (hb hby d13_9) rfl rfl 10 rfl ?_
  refine own_getF X0 hx hZ hown (own_w hw 44 rfl) Via.refl e0 F13_0 (hb hby d13_10) 13 rfl (fun T1532 X1532 e1532 => ?_)
  refine own_iloadN X1532 hx (hb hby d13_13) rfl 14 rfl ?_
  refine own_laload X1532 hx hZ e1532 V10_0 1 rfl (((0 : Int64) + vp) + (0 : Int64)) rfl (hb hby d13_14) 15 rfl ?_
  refine own_lreturn X1532 hx Bd.notSynchronized hG Bd.returns (hb hby d13_15) (by decide) (by decide) ?_
  rw [e1532]
  exact ⟨rfl, N0, rfl⟩
def Q30 (Z : State) (a a1_ a2_ a3_ a4_ a5_ a6_ a7_ a8_ a9_ a10_ a11_ : Addr) (va vb vp : Int64) (h0 : Heap) (n0 : Nat) (v : Option Value) (h : Heap) (L : List Loc) : Prop := v = none ∧ Fr n0 L ∧ n0 ≤ h.size ∧ own_PE Z h a a1_ a2_ a3_ a4_ a5_ a6_ a7_ a8_ a9_ a10_ a11_ (0 : Int32) (0 : Int32) (2 : Int32) ((List.replicate 127 (0 : Int32)).set 0 (0 : Int32)) ((List.replicate 127 (0 : Int32)).set 0 (1 : Int32)) [(0 : Int32), (1 : Int32)] [(1 : Int32), (0 : Int32)] [(-1 : Int32), (-1 : Int32)] [(1 : Int32), (-1 : Int32)] [(2 : Int32), (1 : Int32)] [va, vb] [vp, vp] [(((0 : Int64) + vp) + (((0 : Int64) + vp) + (0 : Int64))), (((0 : Int64) + vp) + (0 : Int64))]
theorem ef_rm30 (m : MethodId) (x0 : Addr) (x1 : Int32) : entryFrame m #[(.ref x0), (.int x1)] 2 = mkF m 0 #[.val (.ref x0), .val (.int x1)] [] := by first | (simp [entryFrame, mkF, argsToLocals, Value.category, maxLocals]; done) | rfl
set_option maxRecDepth 65536 in
set_option maxHeartbeats 40000000 in
theorem rm30 (l : Launch) (Z : State) (a0 : Array Value) (hw : ∀ d ∈ tables_1, d.before a0 Z = true) (ws : List Jvm.Cond) (a a1_ a2_ a3_ a4_ a5_ a6_ a7_ a8_ a9_ a10_ a11_ : Addr) (va vb vp : Int64) (h0 : Heap) (n0 : Nat) (Z0 : n0 ≤ h0.size) (ga : n0 ≤ a) (hord : own_Or a a1_ a2_ a3_ a4_ a5_ a6_ a7_ a8_ a9_ a10_ a11_) (B : own_PE Z h0 a a1_ a2_ a3_ a4_ a5_ a6_ a7_ a8_ a9_ a10_ a11_ (0 : Int32) (0 : Int32) (2 : Int32) ((List.replicate 127 (0 : Int32)).set 0 (0 : Int32)) ((List.replicate 127 (0 : Int32)).set 0 (1 : Int32)) [(0 : Int32), (1 : Int32)] [(1 : Int32), (0 : Int32)] [(-1 : Int32), (-1 : Int32)] [(1 : Int32), (-1 : Int32)] [(2 : Int32), (1 : Int32)] [va, vb] [vp, vp] [(((0 : Int64) + vp) + (0 : Int64)), (((0 : Int64) + vp) + (0 : Int64))]) (hc : va < vb) :
    MetFree l own_y11 (head1 (Jvm.Cond.code own_y11 prog_66_method_8_code 2 none :: ws) ({ frames := 1, cells := 0, slots := 0, locals := 18 } : Room)) (fun aR U => aR = #[(.ref a), (.int (0 : Int32))] ∧ Z.Warmed39 U.vm ∧ U.heap = h0) (fun _ _ _ _ _ => True) (fun _ U o U' => ∃ v L, o = .returned v ∧ Q30 Z a a1_ a2_ a3_ a4_ a5_ a6_ a7_ a8_ a9_ a10_ a11_ va vb vp h0 n0 v U'.heap L ∧ FrameEnd U o U' L ({ frames := 1, cells := 0, slots := 0, locals := 18 } : Room).cells ({ frames := 1, cells := 0, slots := 0, locals := 18 } : Room).slots) := by
  refine MetFree.of_bodySF pf_11 hisR ?_
  intro p e s m args below meth c s₁ Bd hml0 hP hK
  obtain ⟨rfl, hZ, hhE⟩ := hP
  have hx := Bd.exec
  have hby := Bd.bytes
  have hml : c.maxLocals = 2 := hml0
  have hown : s.vm.findClass "com/example/equitide/equitide/policy/backfilling/PlannedEnds" = some m.cls := findClass_of_methodNamed Bd.named
  have hnm := (name_of_methodNamed Bd.named Bd.method).1
  have X0 : Stand p l e ({ frames := 1, cells := 0, slots := 0, locals := 18 } : Room) s m #[(.ref a), (.int (0 : Int32))] below meth c s₁ [] 0 0 := Stand.of_body Bd
  have e0 : s₁.heap = h0 := by rw [← hhE, Bd.state]; rfl
  have N0 := Fr.nil n0
  show own_Go p e below (own_Post s (Q30 Z a a1_ a2_ a3_ a4_ a5_ a6_ a7_ a8_ a9_ a10_ a11_ va vb vp h0 n0) ({ frames := 1, cells := 0, slots := 0, locals := 18 } : Room).cells ({ frames := 1, cells := 0, slots := 0, locals := 18 } : Room).slots) (s₁.setTop (entryFrame m #[(.ref a), (.int (0 : Int32))] 2))
  rw [ef_rm30]
  generalize hG : own_Post s (Q30 Z a a1_ a2_ a3_ a4_ a5_ a6_ a7_ a8_ a9_ a10_ a11_ va vb vp h0 n0) ({ frames := 1, cells := 0, slots := 0, locals := 18 } : Room).cells ({ frames := 1, cells := 0, slots := 0, locals := 18 } : Room).slots = G
  obtain ⟨o1, o2, o3, o4, o5, o6, o7, o8, o9, o10, o11⟩ := id hord
  obtain ⟨E0, F0_0, F1_0, F2_0, F3_0, F4_0, F5_0, F6_0, F7_0, F8_0, F9_0, F10_0, F11_0, F12_0, F13_0, V0_0, V1_0, V2_0, V3_0, V4_0, V5_0, V6_0, V7_0, V8_0, V9_0, V10_0⟩ := B
  refine own_aloadN X0 hx (hb hby d11_0) rfl rfl 1 rfl ?_
  refine own_getF X0 hx hZ hown (own_w hw 44 rfl) Via.refl e0 F13_0 (hb hby d11_1) 4 rfl (fun T1522 X1522 e1522 => ?_)
  refine own_iloadN X1522 hx (hb hby d11_4) rfl 5 rfl ?_
  refine own_aloadN X1522 hx (hb hby d11_5) rfl rfl 6 rfl ?_
  refine own_aloadN X1522 hx (hb hby d11_6) rfl rfl 7 rfl ?_
  refine own_iloadN X1522 hx (hb hby d11_7) rfl 8 rfl ?_
  refine own_callU X1522 hx hZ hown (own_w hw 87 rfl) (own_w hw 88 rfl) (own_w hw 89 rfl) (own_w hw 91 rfl) (own_w hw 90 rfl) (own_w hw 9 rfl) (own_w hw 92 rfl) (by decide) e1522 E0 (rm31 l Z a0 hw [] a a1_ a2_ a3_ a4_ a5_ a6_ a7_ a8_ a9_ a10_ a11_ va vb vp h0 n0 Z0 ga hord ⟨E0, F0_0, F1_0, F2_0, F3_0, F4_0, F5_0, F6_0, F7_0, F8_0, F9_0, F10_0, F11_0, F12_0, F13_0, V0_0, V1_0, V2_0, V3_0, V4_0, V5_0, V6_0, V7_0, V8_0, V9_0, V10_0⟩ hc) (by rw [hml]; rfl) pd_2 (argsL := [(.int (0 : Int32))]) rfl (rest := [(.ref a), (.int (0 : Int32)), (.ref a11_)]) rfl (hb hby d11_8) 3 (Nat.le_of_eq rfl) (by decide) (by decide) (by decide) (by decide) 11 rfl (fun T1524 L1524 v1524 X1524 hQ1524 => ?_)
  obtain ⟨rfl, N1524, e1524⟩ := hQ1524
  have N1525 := Fr.app N0 N1524
  show own_Go p e below G (T1524.setTop (mkF m 11 #[.val (.ref a), .val (.int (0 : Int32))] [(.int (-1 : Int32)), (.ref a), (.int (0 : Int32)), (.ref a11_)]))
  refine own_callP X1524 hx hZ hown (own_w hw 93 rfl) (own_w hw 94 rfl) (own_w hw 95 rfl) (own_niI hZ (own_w hw 1 rfl)) (own_w hw 2 rfl) (own_w hw 96 rfl) (by decide) e1524 E0 (rm32 l Z a0 hw [] a a1_ a2_ a3_ a4_ a5_ a6_ a7_ a8_ a9_ a10_ a11_ va vb vp h0 n0 Z0 ga hord ⟨E0, F0_0, F1_0, F2_0, F3_0, F4_0, F5_0, F6_0, F7_0, F8_0, F9_0, F10_0, F11_0, F12_0, F13_0, V0_0, V1_0, V2_0, V3_0, V4_0, V5_0, V6_0, V7_0, V8_0, V9_0, V10_0⟩ hc) (by rw [hml]; rfl) pd_4 (argsL := [(.int (-1 : Int32))]) rfl (rest := [(.int (0 : Int32)), (.ref a11_)]) rfl (hb hby d11_11) 2 (Nat.le_of_eq rfl) (by decide) (by decide) (by decide) (by decide) 14 rfl (fun T1526 L1526 v1526 X1526 hQ1526 => ?_)
  obtain ⟨rfl, N1526, e1526⟩ := hQ1526
  have N1527 := Fr.app N1525 N1526
  show own_Go p e below G (T1526.setTop (mkF m 14 #[.val (.ref a), .val (.int (0 : Int32))] [(.long (0 : Int64)), (.int (0 : Int32)), (.ref a11_)]))
  refine own_aloadN X1526 hx (hb hby d11_14) rfl rfl 15 rfl ?_
  refine own_getF X1526 hx hZ hown (own_w hw 42 rfl) Via.refl e1526 F12_0 (hb hby d11_15) 18 rfl (fun T1528 X1528 e1528 => ?_)
  refine own_iloadN X1528 hx (hb hby d11_18) rfl 19 rfl ?_
  refine own_laload X1528 hx hZ e1528 V9_0 0 rfl vp rfl (hb hby d11_19) 20 rfl ?_
  refine own_ladd X1528 hx (hb hby d11_20) 21 rfl ?_
  refine own_aloadN X1528 hx (hb hby d11_21) rfl rfl 22 rfl ?_
  refine own_aloadN X1528 hx (hb hby d11_22) rfl rfl 23 rfl ?_
  refine own_iloadN X1528 hx (hb hby d11_23) rfl 24 rfl ?_
  refine own_callU X1528 hx hZ hown (own_w hw 97 rfl) (own_w hw 98 rfl) (own_w hw 99 rfl) (own_w hw 101 rfl) (own_w hw 100 rfl) (own_w hw 9 rfl) (own_w hw 102 rfl) (by decide) e1528 E0 (rm33 l Z a0 hw [] a a1_ a2_ a3_ a4_ a5_ a6_ a7_ a8_ a9_ a10_ a11_ va vb vp h0 n0 Z0 ga hord ⟨E0, F0_0, F1_0, F2_0, F3_0, F4_0, F5_0, F6_0, F7_0, F8_0, F9_0, F10_0, F11_0, F12_0, F13_0, V0_0, V1_0, V2_0, V3_0, V4_0, V5_0, V6_0, V7_0, V8_0, V9_0, V10_0⟩ hc) (by rw [hml]; rfl) pd_2 (argsL := [(.int (0 : Int32))]) rfl (rest := [(.ref a), (.long ((0 : Int64) + vp)), (.int (0 : Int32)), (.ref a11_)]) rfl (hb hby d11_24) 5 (Nat.le_of_eq rfl) (by decide) (by decide) (by decide) (by decide) 27 rfl (fun T1530 L1530 v1530 X1530 hQ1530 => ?_)
  obtain ⟨rfl, N1530, e1530⟩ := hQ1530
  have N1531 := Fr.app N1527 N1530
  show own_Go p e below G (T1530.setTop (mkF m 27 #[.val (.ref a), .val (.int (0 : Int32))] [(.int (1 : Int32)), (.ref a), (.long ((0 : Int64) + vp)), (.int (0 : Int32)), (.ref a11_)]))
  refine own_callP X1530 hx hZ hown (own_w hw 93 rfl) (own_w hw 94 rfl) (own_w hw 95 rfl) (own_niI hZ (own_w hw 1 rfl)) (own_w hw 2 rfl) (own_w hw 96 rfl) (by decide) e1530 E0 (rm34 l Z a0 hw [] a a1_ a2_ a3_ a4_ a5_ a6_ a7_ a8_ a9_ a10_ a11_ va vb vp h0 n0 Z0 ga hord ⟨E0, F0_0, F1_0, F2_0, F3_0, F4_0, F5_0, F6_0, F7_0, F8_0, F9_0, F10_0, F11_0, F12_0, F13_0, V0_0, V1_0, V2_0, V3_0, V4_0, V5_0, V6_0, V7_0, V8_0, V9_0, V10_0⟩ hc) (by rw [hml]; rfl) pd_4 (argsL := [(.int (1 : Int32))]) rfl (rest := [(.long ((0 : Int64) + vp)), (.int (0 : Int32)), (.ref a11_)]) rfl (hb hby d11_27) 4 (Nat.le_of_eq rfl) (by decide) (by decide) (by decide) (by decide) 30 rfl (fun T1533 L1533 v1533 X1533 hQ1533 => ?_)
  obtain ⟨rfl, N1533, e1533⟩ := hQ1533
  have N1534 := Fr.app N1531 N1533
  show own_Go p e below G (T1533.setTop (mkF m 30 #[.val (.ref a), .val (.int (0 : Int32))] [(.long (((0 : Int64) + vp) + (0 : Int64))), (.long ((0 : Int64) + vp)), (.int (0 : Int32)), (.ref a11_)]))
  refine own_ladd X1533 hx (hb hby d11_30) 31 rfl ?_
  refine own_lastore X1533 hx hZ e1533 V10_0 0 rfl (by simp) (hb hby d11_31) 32 rfl (fun T1535 h1535 X1535 e1535 W1535 V1535 => ?_)
  rw [show [(((0 : Int64) + vp) + (0 : Int64)), (((0 : Int64) + vp) + (0 : Int64))].set 0 (((0 : Int64) + vp) + (((0 : Int64) + vp) + (0 : Int64))) = [(((0 : Int64) + vp) + (((0 : Int64) + vp) + (0 : Int64))), (((0 : Int64) + vp) + (0 : Int64))] from rfl] at V1535
  have N1536 := Fr.snoc X1535 N1534 (by omega)
  have Z1537 : n0 ≤ h1535.size := by rw [W1535.size]; exact Z0
  have E1538 := E0.wr W1535
  have F1539 := F0_0.other W1535 (Or.inl (Nat.ne_of_lt (by omega)))
  have F1540 := F1_0.other W1535 (Or.inl (Nat.ne_of_lt (by omega)))
  have F1541 := F2_0.other W1535 (Or.inl (Nat.ne_of_lt (by omega)))
  have F1542 := F3_0.other W1535 (Or.inl (Nat.ne_of_lt (by omega)))
  have F1543 := F4_0.other W1535 (Or.inl (Nat.ne_of_lt (by omega)))
  have F1544 := F5_0.other W1535 (Or.inl (Nat.ne_of_lt (by omega)))
  have F1545 := F6_0.other W1535 (Or.inl (Nat.ne_of_lt (by omega)))
  have F1546 := F7_0.other W1535 (Or.inl (Nat.ne_of_lt (by omega)))
  have F1547 := F8_0.other W1535 (Or.inl (Nat.ne_of_lt (by omega)))
  have F1548 := F9_0.other W1535 (Or.inl (Nat.ne_of_lt (by omega)))
  have F1549 := F10_0.other W1535 (Or.inl (Nat.ne_of_lt (by omega)))
  have F1550 := F11_0.other W1535 (Or.inl (Nat.ne_of_lt (by omega)))
  have F1551 := F12_0.other W1535 (Or.inl (Nat.ne_of_lt (by omega)))
  have F1552 := F13_0.other W1535 (Or.inl (Nat.ne_of_lt (by omega)))
  have V1553 := V0_0.other W1535 (Nat.ne_of_lt (by omega))
  have V1554 := V1_0.other W1535 (Nat.ne_of_lt (by omega))
  have V1555 := V2_0.other W1535 (Nat.ne_of_lt (by omega))
  have V1556 := V3_0.other W1535 (Nat.ne_of_lt (by omega))
  have V1557 := V4_0.other W1535 (Nat.ne_of_lt (by omega))
  have V1558 := V5_0.other W1535 (Nat.ne_of_lt (by omega))
  have V1559 := V6_0.other W1535 (Nat.ne_of_lt (by omega))
  have V1560 := V7_0.other W1535 (Nat.ne_of_lt (by omega))
  have V1561 := V8_0.other W1535 (Nat.ne_of_lt (by omega))
  have V1562 := V9_0.other W1535 (Nat.ne_of_lt (by omega))
  refine own_return X1535 hx Bd.notSynchronized hG Bd.returns (hb hby d11_32) (by decide) (by decide) ?_
  rw [e1535]
  exact ⟨rfl, N1536, Z1537, ⟨E1538, F1539, F1540, F1541, F1542, F1543, F1544, F1545, F1546, F1547, F1548, F1549, F1550, F1551, F1552, V1553, V1554, V1555, V1556, V1557, V1558, V1559, V1560, V1561, V1562, V1535⟩⟩
def Q29 (Z : State) (a a1_ a2_ a3_ a4_ a5_ a6_ a7_ a8_ a9_ a10_ a11_ : Addr) (va vb vp : Int64) (h0 : Heap) (n0 : Nat) (v : Option Value) (h : Heap) (L : List Loc) : Prop := v = none ∧ Fr n0 L ∧ n0 ≤ h.size ∧ own_PE Z h a a1_ a2_ a3_ a4_ a5_ a6_ a7_ a8_ a9_ a10_ a11_ (0 : Int32) (0 : Int32) (2 : Int32) ((List.replicate 127 (0 : Int32)).set 0 (0 : Int32)) ((List.replicate 127 (0 : Int32)).set 0 (1 : Int32)) [(0 : Int32), (1 : Int32)] [(1 : Int32), (0 : Int32)] [(-1 : Int32), (-1 : Int32)] [(1 : Int32), (-1 : Int32)] [(2 : Int32), (1 : Int32)] [va, vb] [vp, vp] [(((0 : Int64) + vp) + (((0 : Int64) + vp) + (0 : Int64))), (((0 : Int64) + vp) + (0 : Int64))]
theorem ef_rm29 (m : MethodId) (x0 : Addr) (x1 : Int32) : entryFrame m #[(.ref x0), (.int x1)] 2 = mkF m 0 #[.val (.ref x0), .val (.int x1)] [] := by first | (simp [entryFrame, mkF, argsToLocals, Value.category, maxLocals]; done) | rfl
set_option maxRecDepth 65536 in
set_option maxHeartbeats 40000000 in
theorem rm29 (l : Launch) (Z : State) (a0 : Array Value) (hw : ∀ d ∈ tables_1, d.before a0 Z = true) (ws : List Jvm.Cond) (a a1_ a2_ a3_ a4_ a5_ a6_ a7_ a8_ a9_ a10_ a11_ : Addr) (va vb vp : Int64) (h0 : Heap) (n0 : Nat) (Z0 : n0 ≤ h0.size) (ga : n0 ≤ a) (hord : own_Or a a1_ a2_ a3_ a4_ a5_ a6_ a7_ a8_ a9_ a10_ a11_) (B : own_PE Z h0 a a1_ a2_ a3_ a4_ a5_ a6_ a7_ a8_ a9_ a10_ a11_ (0 : Int32) (0 : Int32) (2 : Int32) ((List.replicate 127 (0 : Int32)).set 0 (0 : Int32)) ((List.replicate 127 (0 : Int32)).set 0 (1 : Int32)) [(0 : Int32), (1 : Int32)] [(1 : Int32), (0 : Int32)] [(-1 : Int32), (-1 : Int32)] [(1 : Int32), (-1 : Int32)] [(1 : Int32), (1 : Int32)] [va, vb] [vp, vp] [(((0 : Int64) + vp) + (0 : Int64)), (((0 : Int64) + vp) + (0 : Int64))]) (hc : va < vb) :
    MetFree l own_y8 (head1 (Jvm.Cond.code own_y8 prog_49_method_27_code 2 none :: ws) ({ frames := 2, cells := 0, slots := 0, locals := 31 } : Room)) (fun aR U => aR = #[(.ref a), (.int (0 : Int32))] ∧ Z.Warmed39 U.vm ∧ U.heap = h0) (fun _ _ _ _ _ => True) (fun _ U o U' => ∃ v L, o = .returned v ∧ Q29 Z a a1_ a2_ a3_ a4_ a5_ a6_ a7_ a8_ a9_ a10_ a11_ va vb vp h0 n0 v U'.heap L ∧ FrameEnd U o U' L ({ frames := 2, cells := 0, slots := 0, locals := 31 } : Room).cells ({ frames := 2, cells := 0, slots := 0, locals := 31 } : Room).slots) := by
  refine MetFree.of_bodySF pf_8 hisR ?_
  intro p e s m args below meth c s₁ Bd hml0 hP hK
  obtain ⟨rfl, hZ, hhE⟩ := hP
  have hx := Bd.exec
  have hby := Bd.bytes
  have hml : c.maxLocals = 2 := hml0
  have hown : s.vm.findClass "com/example/equitide/equitide/policy/backfilling/AvlTree" = some m.cls := findClass_of_methodNamed Bd.named
  have hnm := (name_of_methodNamed Bd.named Bd.method).1
  have X0 : Stand p l e ({ frames := 2, cells := 0, slots := 0, locals := 31 } : Room) s m #[(.ref a), (.int (0 : Int32))] below meth c s₁ [] 0 0 := Stand.of_body Bd
  have e0 : s₁.heap = h0 := by rw [← hhE, Bd.state]; rfl
  have N0 := Fr.nil n0
  show own_Go p e below (own_Post s (Q29 Z a a1_ a2_ a3_ a4_ a5_ a6_ a7_ a8_ a9_ a10_ a11_ va vb vp h0 n0) ({ frames := 2, cells := 0, slots := 0, locals := 31 } : Room).cells ({ frames := 2, cells := 0, slots := 0, locals := 31 } : Room).slots) (s₁.setTop (entryFrame m #[(.ref a), (.int (0 : Int32))] 2))
  rw [ef_rm29]
  generalize hG : own_Post s (Q29 Z a a1_ a2_ a3_ a4_ a5_ a6_ a7_ a8_ a9_ a10_ a11_ va vb vp h0 n0) ({ frames := 2, cells := 0, slots := 0, locals := 31 } : Room).cells ({ frames := 2, cells := 0, slots := 0, locals := 31 } : Room).slots = G
  obtain ⟨o1, o2, o3, o4, o5, o6, o7, o8, o9, o10, o11⟩ := id hord
  obtain ⟨E0, F0_0, F1_0, F2_0, F3_0, F4_0, F5_0, F6_0, F7_0, F8_0, F9_0, F10_0, F11_0, F12_0, F13_0, V0_0, V1_0, V2_0, V3_0, V4_0, V5_0, V6_0, V7_0, V8_0, V9_0, V10_0⟩ := B
  refine own_aloadN X0 hx (hb hby d8_0) rfl rfl 1 rfl ?_
  refine own_getF X0 hx hZ hown (own_w hw 37 rfl) Via.refl e0 F10_0 (hb hby d8_1) 4 rfl (fun T1485 X1485 e1485 => ?_)
  refine own_iloadN X1485 hx (hb hby d8_4) rfl 5 rfl ?_
  refine own_iconst X1485 hx (hb hby d8_5) (1 : Int32) rfl 6 rfl ?_
  refine own_aloadN X1485 hx (hb hby d8_6) rfl rfl 7 rfl ?_
  refine own_aloadN X1485 hx (hb hby d8_7) rfl rfl 8 rfl ?_
  refine own_getF X1485 hx hZ hown (own_w hw 27 rfl) Via.refl e1485 F7_0 (hb hby d8_8) 11 rfl (fun T1486 X1486 e1486 => ?_)
  refine own_iloadN X1486 hx (hb hby d8_11) rfl 12 rfl ?_
  refine own_iaload X1486 hx hZ e1486 V4_0 0 rfl (-1 : Int32) rfl (hb hby d8_12) 13 rfl ?_
  refine own_callP X1486 hx hZ hown (own_w hw 74 rfl) (own_w hw 75 rfl) (own_w hw 76 rfl) (own_niS hZ (own_w hw 60 rfl) (own_w hw 59 rfl) rfl) (own_w hw 9 rfl) (own_w hw 77 rfl) (by decide) e1486 E0 (rm27 l Z a0 hw [] a a1_ a2_ a3_ a4_ a5_ a6_ a7_ a8_ a9_ a10_ a11_ va vb vp h0 n0 Z0 ga hord ⟨E0, F0_0, F1_0, F2_0, F3_0, F4_0, F5_0, F6_0, F7_0, F8_0, F9_0, F10_0, F11_0, F12_0, F13_0, V0_0, V1_0, V2_0, V3_0, V4_0, V5_0, V6_0, V7_0, V8_0, V9_0, V10_0⟩ hc) (by rw [hml]; rfl) pd_2 (argsL := [(.int (-1 : Int32))]) rfl (rest := [(.int (1 : Int32)), (.int (0 : Int32)), (.ref a8_)]) rfl (hb hby d8_13) 3 (Nat.le_of_eq rfl) (by decide) (by decide) (by decide) (by decide) 16 rfl (fun T1487 L1487 v1487 X1487 hQ1487 => ?_)
  obtain ⟨rfl, N1487, e1487⟩ := hQ1487
  have N1488 := Fr.app N0 N1487
  show own_Go p e below G (T1487.setTop (mkF m 16 #[.val (.ref a), .val (.int (0 : Int32))] [(.int (0 : Int32)), (.int (1 : Int32)), (.int (0 : Int32)), (.ref a8_)]))
  refine own_aloadN X1487 hx (hb hby d8_16) rfl rfl 17 rfl ?_
  refine own_aloadN X1487 hx (hb hby d8_17) rfl rfl 18 rfl ?_
  refine own_getF X1487 hx hZ hown (own_w hw 29 rfl) Via.refl e1487 F8_0 (hb hby d8_18) 21 rfl (fun T1489 X1489 e1489 => ?_)
  refine own_iloadN X1489 hx (hb hby d8_21) rfl 22 rfl ?_
  refine own_iaload X1489 hx hZ e1489 V5_0 0 rfl (1 : Int32) rfl (hb hby d8_22) 23 rfl ?_
  refine own_callP X1489 hx hZ hown (own_w hw 74 rfl) (own_w hw 75 rfl) (own_w hw 76 rfl) (own_niS hZ (own_w hw 60 rfl) (own_w hw 59 rfl) rfl) (own_w hw 9 rfl) (own_w hw 77 rfl) (by decide) e1489 E0 (rm28 l Z a0 hw [] a a1_ a2_ a3_ a4_ a5_ a6_ a7_ a8_ a9_ a10_ a11_ va vb vp h0 n0 Z0 ga hord ⟨E0, F0_0, F1_0, F2_0, F3_0, F4_0, F5_0, F6_0, F7_0, F8_0, F9_0, F10_0, F11_0, F12_0, F13_0, V0_0, V1_0, V2_0, V3_0, V4_0, V5_0, V6_0, V7_0, V8_0, V9_0, V10_0⟩ hc) (by rw [hml]; rfl) pd_2 (argsL := [(.int (1 : Int32))]) rfl (rest := [(.int (0 : Int32)), (.int (1 : Int32)), (.int (0 : Int32)), (.ref a8_)]) rfl (hb hby d8_23) 4 (Nat.le_of_eq rfl) (by decide) (by decide) (by decide) (by decide) 26 rfl (fun T1490 L1490 v1490 X1490 hQ1490 => ?_)
  obtain ⟨rfl, N1490, e1490⟩ := hQ1490
  have N1491 := Fr.app N1488 N1490
  show own_Go p e below G (T1490.setTop (mkF m 26 #[.val (.ref a), .val (.int (0 : Int32))] [(.int (1 : Int32)), (.int (0 : Int32)), (.int (1 : Int32)), (.int (0 : Int32)), (.ref a8_)]))
  refine own_callS X1490 hx hZ hown (own_w hw 78 rfl) (own_w hw 79 rfl) (own_w hw 80 rfl) (own_w hw 81 rfl) (by decide) e1490 (rmMax l Z a0 hw [] (0 : Int32) (1 : Int32) h0 n0) (by rw [hml]; rfl) pd_3 (argsL := [(.int (0 : Int32)), (.int (1 : Int32))]) rfl (rest := [(.int (1 : Int32)), (.int (0 : Int32)), (.ref a8_)]) rfl (hb hby d8_26) 3 (Nat.le_of_eq rfl) (by decide) (by decide) (by decide) (by decide) 29 rfl (fun T1492 L1492 v1492 X1492 hQ1492 => ?_)
  obtain ⟨rfl, N1492, e1492⟩ := hQ1492
  have N1493 := Fr.app N1491 N1492
  show own_Go p e below G (T1492.setTop (mkF m 29 #[.val (.ref a), .val (.int (0 : Int32))] [(.int (own_max (0 : Int32) (1 : Int32))), (.int (1 : Int32)), (.int (0 : Int32)), (.ref a8_)]))
  rw [show own_max (0 : Int32) (1 : Int32) = (1 : Int32) from rfl]
  refine own_iadd X1492 hx (hb hby d8_29) 30 rfl ?_
  show own_Go p e below G (T1492.setTop (mkF m 30 #[.val (.ref a), .val (.int (0 : Int32))] [(.int (2 : Int32)), (.int (0 : Int32)), (.ref a8_)]))
  refine own_i2b X1492 hx (hb hby d8_30) 31 rfl ?_
  show own_Go p e below G (T1492.setTop (mkF m 31 #[.val (.ref a), .val (.int (0 : Int32))] [(.int (2 : Int32)), (.int (0 : Int32)), (.ref a8_)]))
  refine own_bastore X1492 hx hZ e1492 V7_0 0 rfl (by simp) (hb hby d8_31) 32 rfl (fun T1494 h1494 X1494 e1494 W1494 V1494 => ?_)
  rw [show [(1 : Int32), (1 : Int32)].set 0 ((2 : Int32).toInt8.toInt32) = [(2 : Int32), (1 : Int32)] from rfl] at V1494
  have N1495 := Fr.snoc X1494 N1493 (by omega)
  have Z1496 : n0 ≤ h1494.size := by rw [W1494.size]; exact Z0
  have E1497 := E0.wr W1494
  have F1498 := F0_0.other W1494 (Or.inl (Nat.ne_of_lt (by omega)))
  have F1499 := F1_0.other W1494 (Or.inl (Nat.ne_of_lt (by omega)))
  have F1500 := F2_0.other W1494 (Or.inl (Nat.ne_of_lt (by omega)))
  have F1501 := F3_0.other W1494 (Or.inl (Nat.ne_of_lt (by omega)))
  have F1502 := F4_0.other W1494 (Or.inl (Nat.ne_of_lt (by omega)))
  have F1503 := F5_0.other W1494 (Or.inl (Nat.ne_of_lt (by omega)))
  have F1504 := F6_0.other W1494 (Or.inl (Nat.ne_of_lt (by omega)))
  have F1505 := F7_0.other W1494 (Or.inl (Nat.ne_of_lt (by omega)))
  have F1506 := F8_0.other W1494 (Or.inl (Nat.ne_of_lt (by omega)))
  have F1507 := F9_0.other W1494 (Or.inl (Nat.ne_of_lt (by omega)))
  have F1508 := F10_0.other W1494 (Or.inl (Nat.ne_of_lt (by omega)))
  have F1509 := F11_0.other W1494 (Or.inl (Nat.ne_of_lt (by omega)))
  have F1510 := F12_0.other W1494 (Or.inl (Nat.ne_of_lt (by omega)))
  have F1511 := F13_0.other W1494 (Or.inl (Nat.ne_of_lt (by omega)))
  have V1512 := V0_0.other W1494 (Nat.ne_of_lt (by omega))
  have V1513 := V1_0.other W1494 (Nat.ne_of_lt (by omega))
  have V1514 := V2_0.other W1494 (Nat.ne_of_lt (by omega))
  have V1515 := V3_0.other W1494 (Nat.ne_of_lt (by omega))
  have V1516 := V4_0.other W1494 (Nat.ne_of_lt (by omega))
  have V1517 := V5_0.other W1494 (Nat.ne_of_lt (by omega))
  have V1518 := V6_0.other W1494 (Nat.ne_of_lt (by omega))
  have V1519 := V8_0.other W1494 (Ne.symm (Nat.ne_of_lt (by omega)))
  have V1520 := V9_0.other W1494 (Ne.symm (Nat.ne_of_lt (by omega)))
  have V1521 := V10_0.other W1494 (Ne.symm (Nat.ne_of_lt (by omega)))
  refine own_aloadN X1494 hx (hb hby d8_32) rfl rfl 33 rfl ?_
  refine own_iloadN X1494 hx (hb hby d8_33) rfl 34 rfl ?_
  refine own_callV X1494 hx hZ hown (own_w hw 82 rfl) (own_w hw 83 rfl) (own_w hw 84 rfl) (own_nfS (own_niS hZ (own_w hw 60 rfl) (own_w hw 59 rfl) rfl)) (own_w hw 85 rfl) (own_w hw 2 rfl) (own_w hw 86 rfl) (by decide) e1494 E1497 (rm30 l Z a0 hw [] a a1_ a2_ a3_ a4_ a5_ a6_ a7_ a8_ a9_ a10_ a11_ va vb vp h1494 n0 Z1496 ga hord ⟨E1497, F1498, F1499, F1500, F1501, F1502, F1503, F1504, F1505, F1506, F1507, F1508, F1509, F1510, F1511, V1512, V1513, V1514, V1515, V1516, V1517, V1518, V1494, V1519, V1520, V1521⟩ hc) (by rw [hml]; rfl) pd_5 (argsL := [(.int (0 : Int32))]) rfl (rest := []) rfl (hb hby d8_34) 0 (Nat.le_of_eq rfl) (by decide) (by decide) (by decide) (by decide) 37 rfl (fun T1563 L1563 v1563 X1563 hQ1563 => ?_)
  obtain ⟨rfl, N1563, Z1563, B1563⟩ := hQ1563
  have N1564 := Fr.app N1495 N1563
  obtain ⟨E1563, F0_1563, F1_1563, F2_1563, F3_1563, F4_1563, F5_1563, F6_1563, F7_1563, F8_1563, F9_1563, F10_1563, F11_1563, F12_1563, F13_1563, V0_1563, V1_1563, V2_1563, V3_1563, V4_1563, V5_1563, V6_1563, V7_1563, V8_1563, V9_1563, V10_1563⟩ := B1563
  show own_Go p e below G (T1563.setTop (mkF m 37 #[.val (.ref a), .val (.int (0 : Int32))] []))
  refine own_return X1563 hx Bd.notSynchronized hG Bd.returns (hb hby d8_37) (by decide) (by decide) ?_
  skip
  exact ⟨rfl, N1564, Z1563, ⟨E1563, F0_1563, F1_1563, F2_1563, F3_1563, F4_1563, F5_1563, F6_1563, F7_1563, F8_1563, F9_1563, F10_1563, F11_1563, F12_1563, F13_1563, V0_1563, V1_1563, V2_1563, V3_1563, V4_1563, V5_1563, V6_1563, V7_1563, V8_1563, V9_1563, V10_1563⟩⟩
def Q26 (Z : State) (a a1_ a2_ a3_ a4_ a5_ a6_ a7_ a8_ a9_ a10_ a11_ : Addr) (va vb vp : Int64) (h0 : Heap) (n0 : Nat) (v : Option Value) (h : Heap) (L : List Loc) : Prop := v = some (.int (0 : Int32)) ∧ Fr n0 L ∧ n0 ≤ h.size ∧ own_PE Z h a a1_ a2_ a3_ a4_ a5_ a6_ a7_ a8_ a9_ a10_ a11_ (0 : Int32) (0 : Int32) (2 : Int32) ((List.replicate 127 (0 : Int32)).set 0 (0 : Int32)) ((List.replicate 127 (0 : Int32)).set 0 (1 : Int32)) [(0 : Int32), (1 : Int32)] [(1 : Int32), (0 : Int32)] [(-1 : Int32), (-1 : Int32)] [(1 : Int32), (-1 : Int32)] [(2 : Int32), (1 : Int32)] [va, vb] [vp, vp] [(((0 : Int64) + vp) + (((0 : Int64) + vp) + (0 : Int64))), (((0 : Int64) + vp) + (0 : Int64))]
theorem ef_rm26 (m : MethodId) (x0 : Addr) (x1 : Int32) : entryFrame m #[(.ref x0), (.int x1)] 5 = mkF m 0 #[.val (.ref x0), .val (.int x1), .unset, .unset, .unset] [] := by first | (simp [entryFrame, mkF, argsToLocals, Value.category, maxLocals]; done) | rfl
set_option maxRecDepth 65536 in
set_option maxHeartbeats 40000000 in
theorem rm26 (l : Launch) (Z : State) (a0 : Array Value) (hw : ∀ d ∈ tables_1, d.before a0 Z = true) (ws : List Jvm.Cond) (a a1_ a2_ a3_ a4_ a5_ a6_ a7_ a8_ a9_ a10_ a11_ : Addr) (va vb vp : Int64) (h0 : Heap) (n0 : Nat) (Z0 : n0 ≤ h0.size) (ga : n0 ≤ a) (hord : own_Or a a1_ a2_ a3_ a4_ a5_ a6_ a7_ a8_ a9_ a10_ a11_) (B : own_PE Z h0 a a1_ a2_ a3_ a4_ a5_ a6_ a7_ a8_ a9_ a10_ a11_ (0 : Int32) (0 : Int32) (2 : Int32) ((List.replicate 127 (0 : Int32)).set 0 (0 : Int32)) ((List.replicate 127 (0 : Int32)).set 0 (1 : Int32)) [(0 : Int32), (1 : Int32)] [(1 : Int32), (0 : Int32)] [(-1 : Int32), (-1 : Int32)] [(1 : Int32), (-1 : Int32)] [(1 : Int32), (1 : Int32)] [va, vb] [vp, vp] [(((0 : Int64) + vp) + (0 : Int64)), (((0 : Int64) + vp) + (0 : Int64))]) (hc : va < vb) :
    MetFree l own_y18 (head1 (Jvm.Cond.code own_y18 prog_49_method_25_code 5 (some .int) :: ws) ({ frames := 3, cells := 0, slots := 0, locals := 44 } : Room)) (fun aR U => aR = #[(.ref a), (.int (0 : Int32))] ∧ Z.Warmed39 U.vm ∧ U.heap = h0) (fun _ _ _ _ _ => True) (fun _ U o U' => ∃ v L, o = .returned v ∧ Q26 Z a a1_ a2_ a3_ a4_ a5_ a6_ a7_ a8_ a9_ a10_ a11_ va vb vp h0 n0 v U'.heap L ∧ FrameEnd U o U' L ({ frames := 3, cells := 0, slots := 0, locals := 44 } : Room).cells ({ frames := 3, cells := 0, slots := 0, locals := 44 } : Room).slots) := by
  refine MetFree.of_bodySF pf_18 hisR ?_
  intro p e s m args below meth c s₁ Bd hml0 hP hK
  obtain ⟨rfl, hZ, hhE⟩ := hP
  have hx := Bd.exec
  have hby := Bd.bytes
  have hml : c.maxLocals = 5 := hml0
  have hown : s.vm.findClass "com/example/equitide/equitide/policy/backfilling/AvlTree" = some m.cls := findClass_of_methodNamed Bd.named
  have hnm := (name_of_methodNamed Bd.named Bd.method).1
  have X0 : Stand p l e ({ frames := 3, cells := 0, slots := 0, locals := 44 } : Room) s m #[(.ref a), (.int (0 : Int32))] below meth c s₁ [] 0 0 := Stand.of_body Bd
  have e0 : s₁.heap = h0 := by rw [← hhE, Bd.state]; rfl
  have N0 := Fr.nil n0
  show own_Go p e below (own_Post s (Q26 Z a a1_ a2_ a3_ a4_ a5_ a6_ a7_ a8_ a9_ a10_ a11_ va vb vp h0 n0) ({ frames := 3, cells := 0, slots := 0, locals := 44 } : Room).cells ({ frames := 3, cells := 0, slots := 0, locals := 44 } : Room).slots) (s₁.setTop (entryFrame m #[(.ref a), (.int (0 : Int32))] 5))
  rw [ef_rm26]
  generalize hG : own_Post s (Q26 Z a a1_ a2_ a3_ a4_ a5_ a6_ a7_ a8_ a9_ a10_ a11_ va vb vp h0 n0) ({ frames := 3, cells := 0, slots := 0, locals := 44 } : Room).cells ({ frames := 3, cells := 0, slots := 0, locals := 44 } : Room).slots = G
  obtain ⟨o1, o2, o3, o4, o5, o6, o7, o8, o9, o10, o11⟩ := id hord
  obtain ⟨E0, F0_0, F1_0, F2_0, F3_0, F4_0, F5_0, F6_0, F7_0, F8_0, F9_0, F10_0, F11_0, F12_0, F13_0, V0_0, V1_0, V2_0, V3_0, V4_0, V5_0, V6_0, V7_0, V8_0, V9_0, V10_0⟩ := B
  refine own_aloadN X0 hx (hb hby d18_0) rfl rfl 1 rfl ?_
  refine own_aloadN X0 hx (hb hby d18_1) rfl rfl 2 rfl ?_
  refine own_getF X0 hx hZ hown (own_w hw 27 rfl) Via.refl e0 F7_0 (hb hby d18_2) 5 rfl (fun T1478 X1478 e1478 => ?_)
  refine own_iloadN X1478 hx (hb hby d18_5) rfl 6 rfl ?_
  refine own_iaload X1478 hx hZ e1478 V4_0 0 rfl (-1 : Int32) rfl (hb hby d18_6) 7 rfl ?_
  refine own_callP X1478 hx hZ hown (own_w hw 74 rfl) (own_w hw 75 rfl) (own_w hw 76 rfl) (own_niS hZ (own_w hw 60 rfl) (own_w hw 59 rfl) rfl) (own_w hw 9 rfl) (own_w hw 77 rfl) (by decide) e1478 E0 (rm27 l Z a0 hw [] a a1_ a2_ a3_ a4_ a5_ a6_ a7_ a8_ a9_ a10_ a11_ va vb vp h0 n0 Z0 ga hord ⟨E0, F0_0, F1_0, F2_0, F3_0, F4_0, F5_0, F6_0, F7_0, F8_0, F9_0, F10_0, F11_0, F12_0, F13_0, V0_0, V1_0, V2_0, V3_0, V4_0, V5_0, V6_0, V7_0, V8_0, V9_0, V10_0⟩ hc) (by rw [hml]; rfl) pd_2 (argsL := [(.int (-1 : Int32))]) rfl (rest := []) rfl (hb hby d18_7) 0 (Nat.le_of_eq rfl) (by decide) (by decide) (by decide) (by decide) 10 rfl (fun T1479 L1479 v1479 X1479 hQ1479 => ?_)
  obtain ⟨rfl, N1479, e1479⟩ := hQ1479
  have N1480 := Fr.app N0 N1479
  show own_Go p e below G (T1479.setTop (mkF m 10 #[.val (.ref a), .val (.int (0 : Int32)), .unset, .unset, .unset] [(.int (0 : Int32))]))
  refine own_aloadN X1479 hx (hb hby d18_10) rfl rfl 11 rfl ?_
  refine own_aloadN X1479 hx (hb hby d18_11) rfl rfl 12 rfl ?_
  refine own_getF X1479 hx hZ hown (own_w hw 29 rfl) Via.refl e1479 F8_0 (hb hby d18_12) 15 rfl (fun T1481 X1481 e1481 => ?_)
  refine own_iloadN X1481 hx (hb hby d18_15) rfl 16 rfl ?_
  refine own_iaload X1481 hx hZ e1481 V5_0 0 rfl (1 : Int32) rfl (hb hby d18_16) 17 rfl ?_
  refine own_callP X1481 hx hZ hown (own_w hw 74 rfl) (own_w hw 75 rfl) (own_w hw 76 rfl) (own_niS hZ (own_w hw 60 rfl) (own_w hw 59 rfl) rfl) (own_w hw 9 rfl) (own_w hw 77 rfl) (by decide) e1481 E0 (rm28 l Z a0 hw [] a a1_ a2_ a3_ a4_ a5_ a6_ a7_ a8_ a9_ a10_ a11_ va vb vp h0 n0 Z0 ga hord ⟨E0, F0_0, F1_0, F2_0, F3_0, F4_0, F5_0, F6_0, F7_0, F8_0, F9_0, F10_0, F11_0, F12_0, F13_0, V0_0, V1_0, V2_0, V3_0, V4_0, V5_0, V6_0, V7_0, V8_0, V9_0, V10_0⟩ hc) (by rw [hml]; rfl) pd_2 (argsL := [(.int (1 : Int32))]) rfl (rest := [(.int (0 : Int32))]) rfl (hb hby d18_17) 1 (Nat.le_of_eq rfl) (by decide) (by decide) (by decide) (by decide) 20 rfl (fun T1483 L1483 v1483 X1483 hQ1483 => ?_)
  obtain ⟨rfl, N1483, e1483⟩ := hQ1483
  have N1484 := Fr.app N1480 N1483
  show own_Go p e below G (T1483.setTop (mkF m 20 #[.val (.ref a), .val (.int (0 : Int32)), .unset, .unset, .unset] [(.int (1 : Int32)), (.int (0 : Int32))]))
  refine own_isub X1483 hx (hb hby d18_20) 21 rfl ?_
  show own_Go p e below G (T1483.setTop (mkF m 21 #[.val (.ref a), .val (.int (0 : Int32)), .unset, .unset, .unset] [(.int (-1 : Int32))]))
  refine own_istoreN X1483 hx (hb hby d18_21) #[.val (.ref a), .val (.int (0 : Int32)), .val (.int (-1 : Int32)), .unset, .unset] rfl 22 rfl ?_
  refine own_iloadN X1483 hx (hb hby d18_22) rfl 23 rfl ?_
  refine own_iconst X1483 hx (hb hby d18_23) (1 : Int32) rfl 24 rfl ?_
  refine own_icmpN X1483 hx (hb hby d18_24) (flt (by decide)).2.2.1 27 rfl ?_
  refine own_iloadN X1483 hx (hb hby d18_27) rfl 28 rfl ?_
  refine own_iconst X1483 hx (hb hby d18_28) (-1 : Int32) rfl 29 rfl ?_
  refine own_icmpY X1483 hx (hb hby d18_29) (flt (by decide)).2.1 107 ⟨by decide, by decide⟩ ?_
  refine own_aloadN X1483 hx (hb hby d18_107) rfl rfl 108 rfl ?_
  refine own_iloadN X1483 hx (hb hby d18_108) rfl 109 rfl ?_
  refine own_callP X1483 hx hZ hown (own_w hw 70 rfl) (own_w hw 71 rfl) (own_w hw 72 rfl) (own_niS hZ (own_w hw 60 rfl) (own_w hw 59 rfl) rfl) (own_w hw 9 rfl) (own_w hw 73 rfl) (by decide) e1483 E0 (rm29 l Z a0 hw [] a a1_ a2_ a3_ a4_ a5_ a6_ a7_ a8_ a9_ a10_ a11_ va vb vp h0 n0 Z0 ga hord ⟨E0, F0_0, F1_0, F2_0, F3_0, F4_0, F5_0, F6_0, F7_0, F8_0, F9_0, F10_0, F11_0, F12_0, F13_0, V0_0, V1_0, V2_0, V3_0, V4_0, V5_0, V6_0, V7_0, V8_0, V9_0, V10_0⟩ hc) (by rw [hml]; rfl) pd_5 (argsL := [(.int (0 : Int32))]) rfl (rest := []) rfl (hb hby d18_109) 0 (Nat.le_of_eq rfl) (by decide) (by decide) (by decide) (by decide) 112 rfl (fun T1565 L1565 v1565 X1565 hQ1565 => ?_)
  obtain ⟨rfl, N1565, Z1565, B1565⟩ := hQ1565
  have N1566 := Fr.app N1484 N1565
  obtain ⟨E1565, F0_1565, F1_1565, F2_1565, F3_1565, F4_1565, F5_1565, F6_1565, F7_1565, F8_1565, F9_1565, F10_1565, F11_1565, F12_1565, F13_1565, V0_1565, V1_1565, V2_1565, V3_1565, V4_1565, V5_1565, V6_1565, V7_1565, V8_1565, V9_1565, V10_1565⟩ := B1565
  show own_Go p e below G (T1565.setTop (mkF m 112 #[.val (.ref a), .val (.int (0 : Int32)), .val (.int (-1 : Int32)), .unset, .unset] []))
  refine own_iloadN X1565 hx (hb hby d18_112) rfl 113 rfl ?_
  refine own_ireturn X1565 hx Bd.notSynchronized hG Bd.returns (hb hby d18_113) (by decide) (by decide) ?_
  skip
  exact ⟨rfl, N1566, Z1565, ⟨E1565, F0_1565, F1_1565, F2_1565, F3_1565, F4_1565, F5_1565, F6_1565, F7_1565, F8_1565, F9_1565, F10_1565, F11_1565, F12_1565, F13_1565, V0_1565, V1_1565, V2_1565, V3_1565, V4_1565, V5_1565, V6_1565, V7_1565, V8_1565, V9_1565, V10_1565⟩⟩
def Q25 (Z : State) (a a1_ a2_ a3_ a4_ a5_ a6_ a7_ a8_ a9_ a10_ a11_ : Addr) (va vb vp : Int64) (h0 : Heap) (n0 : Nat) (v : Option Value) (h : Heap) (L : List Loc) : Prop := v = some (.int (0 : Int32)) ∧ Fr n0 L ∧ n0 ≤ h.size ∧ own_PE Z h a a1_ a2_ a3_ a4_ a5_ a6_ a7_ a8_ a9_ a10_ a11_ (0 : Int32) (0 : Int32) (2 : Int32) ((List.replicate 127 (0 : Int32)).set 0 (0 : Int32)) ((List.replicate 127 (0 : Int32)).set 0 (1 : Int32)) [(0 : Int32), (1 : Int32)] [(1 : Int32), (0 : Int32)] [(-1 : Int32), (-1 : Int32)] [(1 : Int32), (-1 : Int32)] [(2 : Int32), (1 : Int32)] [va, vb] [vp, vp] [(((0 : Int64) + vp) + (((0 : Int64) + vp) + (0 : Int64))), (((0 : Int64) + vp) + (0 : Int64))]
theorem ef_rm25 (m : MethodId) (x0 : Addr) (x1 : Int32) (x2 : Int32) (x3 : Int32) : entryFrame m #[(.ref x0), (.int x1), (.int x2), (.int x3)] 6 = mkF m 0 #[.val (.ref x0), .val (.int x1), .val (.int x2), .val (.int x3), .unset, .unset] [] := by first | (simp [entryFrame, mkF, argsToLocals, Value.category, maxLocals]; done) | rfl
set_option maxRecDepth 65536 in
set_option maxHeartbeats 40000000 in
theorem rm25 (l : Launch) (Z : State) (a0 : Array Value) (hw : ∀ d ∈ tables_1, d.before a0 Z = true) (ws : List Jvm.Cond) (a a1_ a2_ a3_ a4_ a5_ a6_ a7_ a8_ a9_ a10_ a11_ : Addr) (va vb vp : Int64) (h0 : Heap) (n0 : Nat) (Z0 : n0 ≤ h0.size) (ga : n0 ≤ a) (hord : own_Or a a1_ a2_ a3_ a4_ a5_ a6_ a7_ a8_ a9_ a10_ a11_) (B : own_PE Z h0 a a1_ a2_ a3_ a4_ a5_ a6_ a7_ a8_ a9_ a10_ a11_ (0 : Int32) (0 : Int32) (2 : Int32) ((List.replicate 127 (0 : Int32)).set 0 (0 : Int32)) ((List.replicate 127 (0 : Int32)).set 0 (1 : Int32)) [(0 : Int32), (1 : Int32)] [(1 : Int32), (0 : Int32)] [(-1 : Int32), (-1 : Int32)] [(-1 : Int32), (-1 : Int32)] [(1 : Int32), (1 : Int32)] [va, vb] [vp, vp] [(((0 : Int64) + vp) + (0 : Int64)), (((0 : Int64) + vp) + (0 : Int64))]) (hc : va < vb) :
    MetFree l own_y16 (head1 (Jvm.Cond.code own_y16 prog_49_method_23_code 6 (some .int) :: ws) ({ frames := 4, cells := 0, slots := 0, locals := 60 } : Room)) (fun aR U => aR = #[(.ref a), (.int (0 : Int32)), (.int (1 : Int32)), (.int (1 : Int32))] ∧ Z.Warmed39 U.vm ∧ U.heap = h0) (fun _ _ _ _ _ => True) (fun _ U o U' => ∃ v L, o = .returned v ∧ Q25 Z a a1_ a2_ a3_ a4_ a5_ a6_ a7_ a8_ a9_ a10_ a11_ va vb vp h0 n0 v U'.heap L ∧ FrameEnd U o U' L ({ frames := 4, cells := 0, slots := 0, locals := 60 } : Room).cells ({ frames := 4, cells := 0, slots := 0, locals := 60 } : Room).slots) := by
  refine MetFree.of_bodySF pf_16 hisR ?_
  intro p e s m args below meth c s₁ Bd hml0 hP hK
  obtain ⟨rfl, hZ, hhE⟩ := hP
  have hx := Bd.exec
  have hby := Bd.bytes
  have hml : c.maxLocals = 6 := hml0
  have hown : s.vm.findClass "com/example/equitide/equitide/policy/backfilling/AvlTree" = some m.cls := findClass_of_methodNamed Bd.named
  have hnm := (name_of_methodNamed Bd.named Bd.method).1
  have X0 : Stand p l e ({ frames := 4, cells := 0, slots := 0, locals := 60 } : Room) s m #[(.ref a), (.int (0 : Int32)), (.int (1 : Int32)), (.int (1 : Int32))] below meth c s₁ [] 0 0 := Stand.of_body Bd
  have e0 : s₁.heap = h0 := by rw [← hhE, Bd.state]; rfl
  have N0 := Fr.nil n0
  show own_Go p e below (own_Post s (Q25 Z a a1_ a2_ a3_ a4_ a5_ a6_ a7_ a8_ a9_ a10_ a11_ va vb vp h0 n0) ({ frames := 4, cells := 0, slots := 0, locals := 60 } : Room).cells ({ frames := 4, cells := 0, slots := 0, locals := 60 } : Room).slots) (s₁.setTop (entryFrame m #[(.ref a), (.int (0 : Int32)), (.int (1 : Int32)), (.int (1 : Int32))] 6))
  rw [ef_rm25]
  generalize hG : own_Post s (Q25 Z a a1_ a2_ a3_ a4_ a5_ a6_ a7_ a8_ a9_ a10_ a11_ va vb vp h0 n0) ({ frames := 4, cells := 0, slots := 0, locals := 60 } : Room).cells ({ frames := 4, cells := 0, slots := 0, locals := 60 } : Room).slots = G
  obtain ⟨o1, o2, o3, o4, o5, o6, o7, o8, o9, o10, o11⟩ := id hord
  obtain ⟨E0, F0_0, F1_0, F2_0, F3_0, F4_0, F5_0, F6_0, F7_0, F8_0, F9_0, F10_0, F11_0, F12_0, F13_0, V0_0, V1_0, V2_0, V3_0, V4_0, V5_0, V6_0, V7_0, V8_0, V9_0, V10_0⟩ := B
  refine own_iloadN X0 hx (hb hby d16_0) rfl 1 rfl ?_
  refine own_istore X0 hx (hb hby d16_1) #[.val (.ref a), .val (.int (0 : Int32)), .val (.int (1 : Int32)), .val (.int (1 : Int32)), .val (.int (1 : Int32)), .unset] rfl 3 rfl ?_
  refine own_iloadN X0 hx (hb hby d16_3) rfl 4 rfl ?_
  refine own_istore X0 hx (hb hby d16_4) #[.val (.ref a), .val (.int (0 : Int32)), .val (.int (1 : Int32)), .val (.int (1 : Int32)), .val (.int (1 : Int32)), .val (.int (1 : Int32))] rfl 6 rfl ?_
  refine own_iload X0 hx (hb hby d16_6) rfl 8 rfl ?_
  refine own_iloadN X0 hx (hb hby d16_8) rfl 9 rfl ?_
  refine own_icmpN X0 hx (hb hby d16_9) (tlt (by decide)).2.2.2 12 rfl ?_
  refine own_aloadN X0 hx (hb hby d16_12) rfl rfl 13 rfl ?_
  refine own_getF X0 hx hZ hown (own_w hw 34 rfl) Via.refl e0 F9_0 (hb hby d16_13) 16 rfl (fun T1446 X1446 e1446 => ?_)
  refine own_aloadN X1446 hx (hb hby d16_16) rfl rfl 17 rfl ?_
  refine own_getF X1446 hx hZ hown (own_w hw 19 rfl) Via.refl e1446 F4_0 (hb hby d16_17) 20 rfl (fun T1447 X1447 e1447 => ?_)
  refine own_iload X1447 hx (hb hby d16_20) rfl 22 rfl ?_
  refine own_iconst X1447 hx (hb hby d16_22) (1 : Int32) rfl 23 rfl ?_
  refine own_isub X1447 hx (hb hby d16_23) 24 rfl ?_
  show own_Go p e below G (T1447.setTop (mkF m 24 #[.val (.ref a), .val (.int (0 : Int32)), .val (.int (1 : Int32)), .val (.int (1 : Int32)), .val (.int (1 : Int32)), .val (.int (1 : Int32))] [(.int (0 : Int32)), (.ref a2_), (.ref a7_)]))
  refine own_iaload X1447 hx hZ e1447 V1_0 0 rfl (1 : Int32) rfl (hb hby d16_24) 25 rfl ?_
  obtain ⟨clk, Ak, Sk, -⟩ := id V6_0
  refine own_aaload X1447 hx hZ e1447 Ak rfl (v := .ref a6_) (by rw [Sk]; show ¬ ((1 : Int32) < 0 ∨ 2 ≤ Int32.toNatClampNeg 1); decide) (by rw [Sk]; rfl) (hb hby d16_25) 26 rfl ?_
  refine own_aloadN X1447 hx (hb hby d16_26) rfl rfl 27 rfl ?_
  refine own_getF X1447 hx hZ hown (own_w hw 17 rfl) Via.refl e1447 F3_0 (hb hby d16_27) 30 rfl (fun T1448 X1448 e1448 => ?_)
  refine own_iload X1448 hx (hb hby d16_30) rfl 32 rfl ?_
  refine own_iconst X1448 hx (hb hby d16_32) (1 : Int32) rfl 33 rfl ?_
  refine own_isub X1448 hx (hb hby d16_33) 34 rfl ?_
  show own_Go p e below G (T1448.setTop (mkF m 34 #[.val (.ref a), .val (.int (0 : Int32)), .val (.int (1 : Int32)), .val (.int (1 : Int32)), .val (.int (1 : Int32)), .val (.int (1 : Int32))] [(.int (0 : Int32)), (.ref a1_), (.ref a6_)]))
  refine own_iaload X1448 hx hZ e1448 V0_0 0 rfl (0 : Int32) rfl (hb hby d16_34) 35 rfl ?_
  refine own_iload X1448 hx (hb hby d16_35) rfl 37 rfl ?_
  refine own_iastore X1448 hx hZ e1448 V5_0 0 rfl (by simp) (hb hby d16_37) 38 rfl (fun T1449 h1449 X1449 e1449 W1449 V1449 => ?_)
  rw [show [(-1 : Int32), (-1 : Int32)].set 0 (1 : Int32) = [(1 : Int32), (-1 : Int32)] from rfl] at V1449
  have N1450 := Fr.snoc X1449 N0 (by omega)
  have Z1451 : n0 ≤ h1449.size := by rw [W1449.size]; exact Z0
  have E1452 := E0.wr W1449
  have F1453 := F0_0.other W1449 (Or.inl (Nat.ne_of_lt (by omega)))
  have F1454 := F1_0.other W1449 (Or.inl (Nat.ne_of_lt (by omega)))
  have F1455 := F2_0.other W1449 (Or.inl (Nat.ne_of_lt (by omega)))
  have F1456 := F3_0.other W1449 (Or.inl (Nat.ne_of_lt (by omega)))
  have F1457 := F4_0.other W1449 (Or.inl (Nat.ne_of_lt (by omega)))
  have F1458 := F5_0.other W1449 (Or.inl (Nat.ne_of_lt (by omega)))
  have F1459 := F6_0.other W1449 (Or.inl (Nat.ne_of_lt (by omega)))
  have F1460 := F7_0.other W1449 (Or.inl (Nat.ne_of_lt (by omega)))
  have F1461 := F8_0.other W1449 (Or.inl (Nat.ne_of_lt (by omega)))
  have F1462 := F9_0.other W1449 (Or.inl (Nat.ne_of_lt (by omega)))
  have F1463 := F10_0.other W1449 (Or.inl (Nat.ne_of_lt (by omega)))
  have F1464 := F11_0.other W1449 (Or.inl (Nat.ne_of_lt (by omega)))
  have F1465 := F12_0.other W1449 (Or.inl (Nat.ne_of_lt (by omega)))
  have F1466 := F13_0.other W1449 (Or.inl (Nat.ne_of_lt (by omega)))
  have V1467 := V0_0.other W1449 (Nat.ne_of_lt (by omega))
  have V1468 := V1_0.other W1449 (Nat.ne_of_lt (by omega))
  have V1469 := V2_0.other W1449 (Nat.ne_of_lt (by omega))
  have V1470 := V3_0.other W1449 (Nat.ne_of_lt (by omega))
  have V1471 := V4_0.other W1449 (Nat.ne_of_lt (by omega))
  have V1472 := V6_0.other W1449 (Ne.symm (Nat.ne_of_lt (by omega)))
  have V1473 := V7_0.other W1449 (Ne.symm (Nat.ne_of_lt (by omega)))
  have V1474 := V8_0.other W1449 (Ne.symm (Nat.ne_of_lt (by omega)))
  have V1475 := V9_0.other W1449 (Ne.symm (Nat.ne_of_lt (by omega)))
  have V1476 := V10_0.other W1449 (Ne.symm (Nat.ne_of_lt (by omega)))
  refine own_aloadN X1449 hx (hb hby d16_38) rfl rfl 39 rfl ?_
  refine own_aloadN X1449 hx (hb hby d16_39) rfl rfl 40 rfl ?_
  refine own_getF X1449 hx hZ hown (own_w hw 17 rfl) Via.refl e1449 F1456 (hb hby d16_40) 43 rfl (fun T1477 X1477 e1477 => ?_)
  refine own_iload X1477 hx (hb hby d16_43) rfl 45 rfl ?_
  refine own_iconst X1477 hx (hb hby d16_45) (1 : Int32) rfl 46 rfl ?_
  refine own_isub X1477 hx (hb hby d16_46) 47 rfl ?_
  show own_Go p e below G (T1477.setTop (mkF m 47 #[.val (.ref a), .val (.int (0 : Int32)), .val (.int (1 : Int32)), .val (.int (1 : Int32)), .val (.int (1 : Int32)), .val (.int (1 : Int32))] [(.int (0 : Int32)), (.ref a1_), (.ref a)]))
  refine own_iaload X1477 hx hZ e1477 V1467 0 rfl (0 : Int32) rfl (hb hby d16_47) 48 rfl ?_
  refine own_callP X1477 hx hZ hown (own_w hw 116 rfl) (own_w hw 117 rfl) (own_w hw 118 rfl) (own_niS hZ (own_w hw 60 rfl) (own_w hw 59 rfl) rfl) (own_w hw 9 rfl) (own_w hw 119 rfl) (by decide) e1477 E1452 (rm26 l Z a0 hw [] a a1_ a2_ a3_ a4_ a5_ a6_ a7_ a8_ a9_ a10_ a11_ va vb vp h1449 n0 Z1451 ga hord ⟨E1452, F1453, F1454, F1455, F1456, F1457, F1458, F1459, F1460, F1461, F1462, F1463, F1464, F1465, F1466, V1467, V1468, V1469, V1470, V1471, V1449, V1472, V1473, V1474, V1475, V1476⟩ hc) (by rw [hml]; rfl) pd_2 (argsL := [(.int (0 : Int32))]) rfl (rest := []) rfl (hb hby d16_48) 0 (Nat.le_of_eq rfl) (by decide) (by decide) (by decide) (by decide) 51 rfl (fun T1567 L1567 v1567 X1567 hQ1567 => ?_)
  obtain ⟨rfl, N1567, Z1567, B1567⟩ := hQ1567
  have N1568 := Fr.app N1450 N1567
  obtain ⟨E1567, F0_1567, F1_1567, F2_1567, F3_1567, F4_1567, F5_1567, F6_1567, F7_1567, F8_1567, F9_1567, F10_1567, F11_1567, F12_1567, F13_1567, V0_1567, V1_1567, V2_1567, V3_1567, V4_1567, V5_1567, V6_1567, V7_1567, V8_1567, V9_1567, V10_1567⟩ := B1567
  show own_Go p e below G (T1567.setTop (mkF m 51 #[.val (.ref a), .val (.int (0 : Int32)), .val (.int (1 : Int32)), .val (.int (1 : Int32)), .val (.int (1 : Int32)), .val (.int (1 : Int32))] [(.int (0 : Int32))]))
  refine own_istore X1567 hx (hb hby d16_51) #[.val (.ref a), .val (.int (0 : Int32)), .val (.int (1 : Int32)), .val (.int (1 : Int32)), .val (.int (0 : Int32)), .val (.int (1 : Int32))] rfl 53 rfl ?_
  refine own_iinc X1567 hx (hb hby d16_53) rfl #[.val (.ref a), .val (.int (0 : Int32)), .val (.int (1 : Int32)), .val (.int (1 : Int32)), .val (.int (0 : Int32)), .val (.int (0 : Int32))] rfl 56 rfl ?_
  refine own_goto X1567 hx (hb hby d16_56) 6 ⟨by decide, by decide⟩ ?_
  refine own_iload X1567 hx (hb hby d16_6) rfl 8 rfl ?_
  refine own_iloadN X1567 hx (hb hby d16_8) rfl 9 rfl ?_
  refine own_icmpY X1567 hx (hb hby d16_9) (flt (by decide)).2.2.2 59 ⟨by decide, by decide⟩ ?_
  refine own_iload X1567 hx (hb hby d16_59) rfl 61 rfl ?_
  refine own_ireturn X1567 hx Bd.notSynchronized hG Bd.returns (hb hby d16_61) (by decide) (by decide) ?_
  skip
  exact ⟨rfl, N1568, Z1567, ⟨E1567, F0_1567, F1_1567, F2_1567, F3_1567, F4_1567, F5_1567, F6_1567, F7_1567, F8_1567, F9_1567, F10_1567, F11_1567, F12_1567, F13_1567, V0_1567, V1_1567, V2_1567, V3_1567, V4_1567, V5_1567, V6_1567, V7_1567, V8_1567, V9_1567, V10_1567⟩⟩
def Q16 (Z : State) (a a1_ a2_ a3_ a4_ a5_ a6_ a7_ a8_ a9_ a10_ a11_ : Addr) (va vb vp : Int64) (h0 : Heap) (n0 : Nat) (v : Option Value) (h : Heap) (L : List Loc) : Prop := v = none ∧ Fr n0 L ∧ n0 ≤ h.size ∧ own_PE Z h a a1_ a2_ a3_ a4_ a5_ a6_ a7_ a8_ a9_ a10_ a11_ (0 : Int32) (0 : Int32) (2 : Int32) ((List.replicate 127 (0 : Int32)).set 0 (0 : Int32)) ((List.replicate 127 (0 : Int32)).set 0 (1 : Int32)) [(0 : Int32), (1 : Int32)] [(1 : Int32), (0 : Int32)] [(-1 : Int32), (-1 : Int32)] [(1 : Int32), (-1 : Int32)] [(2 : Int32), (1 : Int32)] [va, vb] [vp, vp] [(((0 : Int64) + vp) + (((0 : Int64) + vp) + (0 : Int64))), (((0 : Int64) + vp) + (0 : Int64))]
theorem ef_rm16 (m : MethodId) (x0 : Addr) (x1 : Int32) : entryFrame m #[(.ref x0), (.int x1)] 2 = mkF m 0 #[.val (.ref x0), .val (.int x1)] [] := by first | (simp [entryFrame, mkF, argsToLocals, Value.category, maxLocals]; done) | rfl
set_option maxRecDepth 65536 in
set_option maxHeartbeats 40000000 in
theorem rm16 (l : Launch) (Z : State) (a0 : Array Value) (hw : ∀ d ∈ tables_1, d.before a0 Z = true) (ws : List Jvm.Cond) (a a1_ a2_ a3_ a4_ a5_ a6_ a7_ a8_ a9_ a10_ a11_ : Addr) (va vb vp : Int64) (h0 : Heap) (n0 : Nat) (Z0 : n0 ≤ h0.size) (ga : n0 ≤ a) (hord : own_Or a a1_ a2_ a3_ a4_ a5_ a6_ a7_ a8_ a9_ a10_ a11_) (B : own_PE Z h0 a a1_ a2_ a3_ a4_ a5_ a6_ a7_ a8_ a9_ a10_ a11_ (0 : Int32) (0 : Int32) (1 : Int32) (List.replicate 127 (0 : Int32)) (List.replicate 127 (0 : Int32)) [(0 : Int32), (1 : Int32)] [(1 : Int32), (0 : Int32)] [(-1 : Int32), (-1 : Int32)] [(-1 : Int32), (-1 : Int32)] [(1 : Int32), (0 : Int32)] [va, vb] [vp, vp] [(((0 : Int64) + vp) + (0 : Int64)), (0 : Int64)]) (hc : va < vb) :
    MetFree l own_y7 (head1 (Jvm.Cond.code own_y7 prog_49_method_12_code 2 none :: ws) ({ frames := 5, cells := 0, slots := 0, locals := 78 } : Room)) (fun aR U => aR = #[(.ref a), (.int (1 : Int32))] ∧ Z.Warmed39 U.vm ∧ U.heap = h0) (fun _ _ _ _ _ => True) (fun _ U o U' => ∃ v L, o = .returned v ∧ Q16 Z a a1_ a2_ a3_ a4_ a5_ a6_ a7_ a8_ a9_ a10_ a11_ va vb vp h0 n0 v U'.heap L ∧ FrameEnd U o U' L ({ frames := 5, cells := 0, slots := 0, locals := 78 } : Room).cells ({ frames := 5, cells := 0, slots := 0, locals := 78 } : Room).slots) := by
  refine MetFree.of_bodySF pf_7 hisR ?_
  intro p e s m args below meth c s₁ Bd hml0 hP hK
  obtain ⟨rfl, hZ, hhE⟩ := hP
  have hx := Bd.exec
  have hby := Bd.bytes
  have hml : c.maxLocals = 2 := hml0
  have hown : s.vm.findClass "com/example/equitide/equitide/policy/backfilling/AvlTree" = some m.cls := findClass_of_methodNamed Bd.named
  have hnm := (name_of_methodNamed Bd.named Bd.method).1
  have X0 : Stand p l e ({ frames := 5, cells := 0, slots := 0, locals := 78 } : Room) s m #[(.ref a), (.int (1 : Int32))] below meth c s₁ [] 0 0 := Stand.of_body Bd
  have e0 : s₁.heap = h0 := by rw [← hhE, Bd.state]; rfl
  have N0 := Fr.nil n0
  show own_Go p e below (own_Post s (Q16 Z a a1_ a2_ a3_ a4_ a5_ a6_ a7_ a8_ a9_ a10_ a11_ va vb vp h0 n0) ({ frames := 5, cells := 0, slots := 0, locals := 78 } : Room).cells ({ frames := 5, cells := 0, slots := 0, locals := 78 } : Room).slots) (s₁.setTop (entryFrame m #[(.ref a), (.int (1 : Int32))] 2))
  rw [ef_rm16]
  generalize hG : own_Post s (Q16 Z a a1_ a2_ a3_ a4_ a5_ a6_ a7_ a8_ a9_ a10_ a11_ va vb vp h0 n0) ({ frames := 5, cells := 0, slots := 0, locals := 78 } : Room).cells ({ frames := 5, cells := 0, slots := 0, locals := 78 } : Room).slots = G
  obtain ⟨o1, o2, o3, o4, o5, o6, o7, o8, o9, o10, o11⟩ := id hord
  obtain ⟨E0, F0_0, F1_0, F2_0, F3_0, F4_0, F5_0, F6_0, F7_0, F8_0, F9_0, F10_0, F11_0, F12_0, F13_0, V0_0, V1_0, V2_0, V3_0, V4_0, V5_0, V6_0, V7_0, V8_0, V9_0, V10_0⟩ := B
  refine own_aloadN X0 hx (hb hby d7_0) rfl rfl 1 rfl ?_
  refine own_dup X0 hx (hb hby d7_1) rfl 2 rfl ?_
  refine own_getF X0 hx hZ hown (own_w hw 68 rfl) Via.refl e0 F2_0 (hb hby d7_2) 5 rfl (fun T1266 X1266 e1266 => ?_)
  refine own_iconst X1266 hx (hb hby d7_5) (1 : Int32) rfl 6 rfl ?_
  refine own_iadd X1266 hx (hb hby d7_6) 7 rfl ?_
  show own_Go p e below G (T1266.setTop (mkF m 7 #[.val (.ref a), .val (.int (1 : Int32))] [(.int (2 : Int32)), (.ref a)]))
  refine own_putF X1266 hx hZ hown (own_w hw 68 rfl) Via.refl e1266 F2_0 E0 (Or.inl (own_w hw 69 rfl)) (own_w hw 1 rfl) (ty := .int) (v' := (.int (2 : Int32))) (by decide) rfl rfl (hb hby d7_7) 10 rfl (fun T1267 h1267 X1267 e1267 W1267 => ?_)
  have N1268 := Fr.snoc X1267 N0 ga
  have Z1269 : n0 ≤ h1267.size := by rw [W1267.size]; exact Z0
  have E1270 := E0.wr W1267
  have F1271 := F0_0.other W1267 (Or.inr (sn_169 hw))
  have F1272 := F1_0.other W1267 (Or.inr (sn_170 hw))
  have F1273 := F2_0.same W1267
  have F1274 := F3_0.other W1267 (Or.inr (sn_171 hw))
  have F1275 := F4_0.other W1267 (Or.inr (sn_172 hw))
  have F1276 := F5_0.other W1267 (Or.inr (sn_173 hw))
  have F1277 := F6_0.other W1267 (Or.inr (sn_174 hw))
  have F1278 := F7_0.other W1267 (Or.inr (sn_175 hw))
  have F1279 := F8_0.other W1267 (Or.inr (sn_176 hw))
  have F1280 := F9_0.other W1267 (Or.inr (sn_177 hw))
  have F1281 := F10_0.other W1267 (Or.inr (sn_178 hw))
  have F1282 := F11_0.other W1267 (Or.inr (sn_179 hw))
  have F1283 := F12_0.other W1267 (Or.inr (sn_180 hw))
  have F1284 := F13_0.other W1267 (Or.inr (sn_181 hw))
  have V1285 := V0_0.other W1267 (Ne.symm (Nat.ne_of_lt (by omega)))
  have V1286 := V1_0.other W1267 (Ne.symm (Nat.ne_of_lt (by omega)))
  have V1287 := V2_0.other W1267 (Ne.symm (Nat.ne_of_lt (by omega)))
  have V1288 := V3_0.other W1267 (Ne.symm (Nat.ne_of_lt (by omega)))
  have V1289 := V4_0.other W1267 (Ne.symm (Nat.ne_of_lt (by omega)))
  have V1290 := V5_0.other W1267 (Ne.symm (Nat.ne_of_lt (by omega)))
  have V1291 := V6_0.other W1267 (Ne.symm (Nat.ne_of_lt (by omega)))
  have V1292 := V7_0.other W1267 (Ne.symm (Nat.ne_of_lt (by omega)))
  have V1293 := V8_0.other W1267 (Ne.symm (Nat.ne_of_lt (by omega)))
  have V1294 := V9_0.other W1267 (Ne.symm (Nat.ne_of_lt (by omega)))
  have V1295 := V10_0.other W1267 (Ne.symm (Nat.ne_of_lt (by omega)))
  refine own_aloadN X1267 hx (hb hby d7_10) rfl rfl 11 rfl ?_
  refine own_iloadN X1267 hx (hb hby d7_11) rfl 12 rfl ?_
  refine own_callP X1267 hx hZ hown (own_w hw 70 rfl) (own_w hw 71 rfl) (own_w hw 72 rfl) (own_niS hZ (own_w hw 60 rfl) (own_w hw 59 rfl) rfl) (own_w hw 9 rfl) (own_w hw 73 rfl) (by decide) e1267 E1270 (rm17 l Z a0 hw [] a a1_ a2_ a3_ a4_ a5_ a6_ a7_ a8_ a9_ a10_ a11_ va vb vp h1267 n0 Z1269 ga hord ⟨E1270, F1271, F1272, F1273, F1274, F1275, F1276, F1277, F1278, F1279, F1280, F1281, F1282, F1283, F1284, V1285, V1286, V1287, V1288, V1289, V1290, V1291, V1292, V1293, V1294, V1295⟩ hc) (by rw [hml]; rfl) pd_5 (argsL := [(.int (1 : Int32))]) rfl (rest := []) rfl (hb hby d7_12) 0 (Nat.le_of_eq rfl) (by decide) (by decide) (by decide) (by decide) 15 rfl (fun T1375 L1375 v1375 X1375 hQ1375 => ?_)
  obtain ⟨rfl, N1375, Z1375, B1375⟩ := hQ1375
  have N1376 := Fr.app N1268 N1375
  obtain ⟨E1375, F0_1375, F1_1375, F2_1375, F3_1375, F4_1375, F5_1375, F6_1375, F7_1375, F8_1375, F9_1375, F10_1375, F11_1375, F12_1375, F13_1375, V0_1375, V1_1375, V2_1375, V3_1375, V4_1375, V5_1375, V6_1375, V7_1375, V8_1375, V9_1375, V10_1375⟩ := B1375
  show own_Go p e below G (T1375.setTop (mkF m 15 #[.val (.ref a), .val (.int (1 : Int32))] []))
  refine own_aloadN X1375 hx (hb hby d7_15) rfl rfl 16 rfl ?_
  refine own_aloadN X1375 hx (hb hby d7_16) rfl rfl 17 rfl ?_
  refine own_iconst X1375 hx (hb hby d7_17) (0 : Int32) rfl 18 rfl ?_
  refine own_aloadN X1375 hx (hb hby d7_18) rfl rfl 19 rfl ?_
  refine own_iloadN X1375 hx (hb hby d7_19) rfl 20 rfl ?_
  refine own_iconst X1375 hx (hb hby d7_20) (-1 : Int32) rfl 21 rfl ?_
  refine own_callP X1375 hx hZ hown (own_w hw 103 rfl) (own_w hw 104 rfl) (own_w hw 105 rfl) (own_niS hZ (own_w hw 60 rfl) (own_w hw 59 rfl) rfl) (own_w hw 9 rfl) (own_w hw 106 rfl) (by decide) (rfl : T1375.heap = T1375.heap) E1375 (rm23 l Z a0 hw [] a a1_ a2_ a3_ a4_ a5_ a6_ a7_ a8_ a9_ a10_ a11_ va vb vp T1375.heap n0 Z1375 ga hord ⟨E1375, F0_1375, F1_1375, F2_1375, F3_1375, F4_1375, F5_1375, F6_1375, F7_1375, F8_1375, F9_1375, F10_1375, F11_1375, F12_1375, F13_1375, V0_1375, V1_1375, V2_1375, V3_1375, V4_1375, V5_1375, V6_1375, V7_1375, V8_1375, V9_1375, V10_1375⟩ hc) (by rw [hml]; rfl) pd_3 (argsL := [(.int (1 : Int32)), (.int (-1 : Int32))]) rfl (rest := [(.int (0 : Int32)), (.ref a), (.ref a)]) rfl (hb hby d7_21) 3 (Nat.le_of_eq rfl) (by decide) (by decide) (by decide) (by decide) 24 rfl (fun T1444 L1444 v1444 X1444 hQ1444 => ?_)
  obtain ⟨rfl, N1444, Z1444, B1444⟩ := hQ1444
  have N1445 := Fr.app N1376 N1444
  obtain ⟨E1444, F0_1444, F1_1444, F2_1444, F3_1444, F4_1444, F5_1444, F6_1444, F7_1444, F8_1444, F9_1444, F10_1444, F11_1444, F12_1444, F13_1444, V0_1444, V1_1444, V2_1444, V3_1444, V4_1444, V5_1444, V6_1444, V7_1444, V8_1444, V9_1444, V10_1444⟩ := B1444
  show own_Go p e below G (T1444.setTop (mkF m 24 #[.val (.ref a), .val (.int (1 : Int32))] [(.int (1 : Int32)), (.int (0 : Int32)), (.ref a), (.ref a)]))
  refine own_iloadN X1444 hx (hb hby d7_24) rfl 25 rfl ?_
  refine own_callP X1444 hx hZ hown (own_w hw 107 rfl) (own_w hw 108 rfl) (own_w hw 109 rfl) (own_niS hZ (own_w hw 60 rfl) (own_w hw 59 rfl) rfl) (own_w hw 9 rfl) (own_w hw 110 rfl) (by decide) (rfl : T1444.heap = T1444.heap) E1444 (rm25 l Z a0 hw [] a a1_ a2_ a3_ a4_ a5_ a6_ a7_ a8_ a9_ a10_ a11_ va vb vp T1444.heap n0 Z1444 ga hord ⟨E1444, F0_1444, F1_1444, F2_1444, F3_1444, F4_1444, F5_1444, F6_1444, F7_1444, F8_1444, F9_1444, F10_1444, F11_1444, F12_1444, F13_1444, V0_1444, V1_1444, V2_1444, V3_1444, V4_1444, V5_1444, V6_1444, V7_1444, V8_1444, V9_1444, V10_1444⟩ hc) (by rw [hml]; rfl) pd_6 (argsL := [(.int (0 : Int32)), (.int (1 : Int32)), (.int (1 : Int32))]) rfl (rest := [(.ref a)]) rfl (hb hby d7_25) 1 (Nat.le_of_eq rfl) (by decide) (by decide) (by decide) (by decide) 28 rfl (fun T1569 L1569 v1569 X1569 hQ1569 => ?_)
  obtain ⟨rfl, N1569, Z1569, B1569⟩ := hQ1569
  have N1570 := Fr.app N1445 N1569
  obtain ⟨E1569, F0_1569, F1_1569, F2_1569, F3_1569, F4_1569, F5_1569, F6_1569, F7_1569, F8_1569, F9_1569, F10_1569, F11_1569, F12_1569, F13_1569, V0_1569, V1_1569, V2_1569, V3_1569, V4_1569, V5_1569, V6_1569, V7_1569, V8_1569, V9_1569, V10_1569⟩ := B1569
  show own_Go p e below G (T1569.setTop (mkF m 28 #[.val (.ref a), .val (.int (1 : Int32))] [(.int (0 : Int32)), (.ref a)]))
  refine own_putF X1569 hx hZ hown (own_w hw 14 rfl) Via.refl (rfl : T1569.heap = T1569.heap) F0_1569 E1569 (Or.inl (own_w hw 15 rfl)) (own_w hw 1 rfl) (ty := .int) (v' := (.int (0 : Int32))) (by decide) rfl rfl (hb hby d7_28) 31 rfl (fun T1571 h1571 X1571 e1571 W1571 => ?_)
  have N1572 := Fr.snoc X1571 N1570 ga
  have Z1573 : n0 ≤ h1571.size := by rw [W1571.size]; exact Z1569
  have E1574 := E1569.wr W1571
  have F1575 := F0_1569.same W1571
  have F1576 := F1_1569.other W1571 (Or.inr (sn_0 hw))
  have F1577 := F2_1569.other W1571 (Or.inr (sn_1 hw))
  have F1578 := F3_1569.other W1571 (Or.inr (sn_2 hw))
  have F1579 := F4_1569.other W1571 (Or.inr (sn_3 hw))
  have F1580 := F5_1569.other W1571 (Or.inr (sn_4 hw))
  have F1581 := F6_1569.other W1571 (Or.inr (sn_5 hw))
  have F1582 := F7_1569.other W1571 (Or.inr (sn_6 hw))
  have F1583 := F8_1569.other W1571 (Or.inr (sn_7 hw))
  have F1584 := F9_1569.other W1571 (Or.inr (sn_8 hw))
  have F1585 := F10_1569.other W1571 (Or.inr (sn_9 hw))
  have F1586 := F11_1569.other W1571 (Or.inr (sn_10 hw))
  have F1587 := F12_1569.other W1571 (Or.inr (sn_11 hw))
  have F1588 := F13_1569.other W1571 (Or.inr (sn_12 hw))
  have V1589 := V0_1569.other W1571 (Ne.symm (Nat.ne_of_lt (by omega)))
  have V1590 := V1_1569.other W1571 (Ne.symm (Nat.ne_of_lt (by omega)))
  have V1591 := V2_1569.other W1571 (Ne.symm (Nat.ne_of_lt (by omega)))
  have V1592 := V3_1569.other W1571 (Ne.symm (Nat.ne_of_lt (by omega)))
  have V1593 := V4_1569.other W1571 (Ne.symm (Nat.ne_of_lt (by omega)))
  have V1594 := V5_1569.other W1571 (Ne.symm (Nat.ne_of_lt (by omega)))
  have V1595 := V6_1569.other W1571 (Ne.symm (Nat.ne_of_lt (by omega)))
  have V1596 := V7_1569.other W1571 (Ne.symm (Nat.ne_of_lt (by omega)))
  have V1597 := V8_1569.other W1571 (Ne.symm (Nat.ne_of_lt (by omega)))
  have V1598 := V9_1569.other W1571 (Ne.symm (Nat.ne_of_lt (by omega)))
  have V1599 := V10_1569.other W1571 (Ne.symm (Nat.ne_of_lt (by omega)))
  refine own_return X1571 hx Bd.notSynchronized hG Bd.returns (hb hby d7_31) (by decide) (by decide) ?_
  rw [e1571]
  exact ⟨rfl, N1572, Z1573, ⟨E1574, F1575, F1576, F1577, F1578, F1579, F1580, F1581, F1582, F1583, F1584, F1585, F1586, F1587, F1588, V1589, V1590, V1591, V1592, V1593, V1594, V1595, V1596, V1597, V1598, V1599⟩⟩
def Q13 (Z : State) (a a1_ a2_ a3_ a4_ a5_ a6_ a7_ a8_ a9_ a10_ a11_ : Addr) (va vb vp : Int64) (h0 : Heap) (n0 : Nat) (v : Option Value) (h : Heap) (L : List Loc) : Prop := v = none ∧ Fr n0 L ∧ n0 ≤ h.size ∧ own_PE Z h a a1_ a2_ a3_ a4_ a5_ a6_ a7_ a8_ a9_ a10_ a11_ (0 : Int32) (0 : Int32) (2 : Int32) ((List.replicate 127 (0 : Int32)).set 0 (0 : Int32)) ((List.replicate 127 (0 : Int32)).set 0 (1 : Int32)) [(0 : Int32), (1 : Int32)] [(1 : Int32), (0 : Int32)] [(-1 : Int32), (-1 : Int32)] [(1 : Int32), (-1 : Int32)] [(2 : Int32), (1 : Int32)] [va, vb] [vp, vp] [(((0 : Int64) + vp) + (((0 : Int64) + vp) + (0 : Int64))), (((0 : Int64) + vp) + (0 : Int64))]
theorem ef_rm13 (m : MethodId) (x0 : Addr) (x1 : Int32) (x2 : Int64) (x3 : Int64) : entryFrame m #[(.ref x0), (.int x1), (.long x2), (.long x3)] 7 = mkF m 0 #[.val (.ref x0), .val (.int x1), .val (.long x2), .second, .val (.long x3), .second, .unset] [] := by first | (simp [entryFrame, mkF, argsToLocals, Value.category, maxLocals]; done) | rfl
set_option maxRecDepth 65536 in
set_option maxHeartbeats 40000000 in
theorem rm13 (l : Launch) (Z : State) (a0 : Array Value) (hw : ∀ d ∈ tables_1, d.before a0 Z = true) (ws : List Jvm.Cond) (a a1_ a2_ a3_ a4_ a5_ a6_ a7_ a8_ a9_ a10_ a11_ : Addr) (va vb vp : Int64) (h0 : Heap) (n0 : Nat) (Z0 : n0 ≤ h0.size) (ga : n0 ≤ a) (hord : own_Or a a1_ a2_ a3_ a4_ a5_ a6_ a7_ a8_ a9_ a10_ a11_) (B : own_PE Z h0 a a1_ a2_ a3_ a4_ a5_ a6_ a7_ a8_ a9_ a10_ a11_ (0 : Int32) (1 : Int32) (1 : Int32) (List.replicate 127 (0 : Int32)) (List.replicate 127 (0 : Int32)) [(0 : Int32), (0 : Int32)] [(1 : Int32), (0 : Int32)] [(-1 : Int32), (0 : Int32)] [(-1 : Int32), (0 : Int32)] [(1 : Int32), (0 : Int32)] [va, (0 : Int64)] [vp, (0 : Int64)] [(((0 : Int64) + vp) + (0 : Int64)), (0 : Int64)]) (hc : va < vb) :
    MetFree l own_y4 (head1 (Jvm.Cond.code own_y4 prog_66_method_2_code 7 none :: ws) ({ frames := 6, cells := 0, slots := 0, locals := 91 } : Room)) (fun aR U => aR = #[(.ref a), (.int (1 : Int32)), (.long vb), (.long vp)] ∧ Z.Warmed39 U.vm ∧ U.heap = h0) (fun _ _ _ _ _ => True) (fun _ U o U' => ∃ v L, o = .returned v ∧ Q13 Z a a1_ a2_ a3_ a4_ a5_ a6_ a7_ a8_ a9_ a10_ a11_ va vb vp h0 n0 v U'.heap L ∧ FrameEnd U o U' L ({ frames := 6, cells := 0, slots := 0, locals := 91 } : Room).cells ({ frames := 6, cells := 0, slots := 0, locals := 91 } : Room).slots) := by
  refine MetFree.of_bodySF pf_4 hisR ?_
  intro p e s m args below meth c s₁ Bd hml0 hP hK
  obtain ⟨rfl, hZ, hhE⟩ := hP
  have hx := Bd.exec
  have hby := Bd.bytes
  have hml : c.maxLocals = 7 := hml0
  have hown : s.vm.findClass "com/example/equitide/equitide/policy/backfilling/PlannedEnds" = some m.cls := findClass_of_methodNamed Bd.named
  have hnm := (name_of_methodNamed Bd.named Bd.method).1
  have X0 : Stand p l e ({ frames := 6, cells := 0, slots := 0, locals := 91 } : Room) s m #[(.ref a), (.int (1 : Int32)), (.long vb), (.long vp)] below meth c s₁ [] 0 0 := Stand.of_body Bd
  have e0 : s₁.heap = h0 := by rw [← hhE, Bd.state]; rfl
  have N0 := Fr.nil n0
  show own_Go p e below (own_Post s (Q13 Z a a1_ a2_ a3_ a4_ a5_ a6_ a7_ a8_ a9_ a10_ a11_ va vb vp h0 n0) ({ frames := 6, cells := 0, slots := 0, locals := 91 } : Room).cells ({ frames := 6, cells := 0, slots := 0, locals := 91 } : Room).slots) (s₁.setTop (entryFrame m #[(.ref a), (.int (1 : Int32)), (.long vb), (.long vp)] 7))
  rw [ef_rm13]
  generalize hG : own_Post s (Q13 Z a a1_ a2_ a3_ a4_ a5_ a6_ a7_ a8_ a9_ a10_ a11_ va vb vp h0 n0) ({ frames := 6, cells := 0, slots := 0, locals := 91 } : Room).cells ({ frames := 6, cells := 0, slots := 0, locals := 91 } : Room).slots = G
  obtain ⟨o1, o2, o3, o4, o5, o6, o7, o8, o9, o10, o11⟩ := id hord
  obtain ⟨E0, F0_0, F1_0, F2_0, F3_0, F4_0, F5_0, F6_0, F7_0, F8_0, F9_0, F10_0, F11_0, F12_0, F13_0, V0_0, V1_0, V2_0, V3_0, V4_0, V5_0, V6_0, V7_0, V8_0, V9_0, V10_0⟩ := B
  refine own_aloadN X0 hx (hb hby d4_0) rfl rfl 1 rfl ?_
  refine own_iloadN X0 hx (hb hby d4_1) rfl 2 rfl ?_
  refine own_callU X0 hx hZ hown (own_w hw 51 rfl) (own_w hw 52 rfl) (own_w hw 53 rfl) (own_w hw 55 rfl) (own_w hw 54 rfl) (own_w hw 9 rfl) (own_w hw 56 rfl) (by decide) e0 E0 (rm14 l Z a0 hw [] a a1_ a2_ a3_ a4_ a5_ a6_ a7_ a8_ a9_ a10_ a11_ va vb vp h0 n0 Z0 ga hord ⟨E0, F0_0, F1_0, F2_0, F3_0, F4_0, F5_0, F6_0, F7_0, F8_0, F9_0, F10_0, F11_0, F12_0, F13_0, V0_0, V1_0, V2_0, V3_0, V4_0, V5_0, V6_0, V7_0, V8_0, V9_0, V10_0⟩ hc) (by rw [hml]; rfl) pd_2 (argsL := [(.int (1 : Int32))]) rfl (rest := []) rfl (hb hby d4_2) 0 (Nat.le_of_eq rfl) (by decide) (by decide) (by decide) (by decide) 5 rfl (fun T1206 L1206 v1206 X1206 hQ1206 => ?_)
  obtain ⟨rfl, N1206, Z1206, B1206⟩ := hQ1206
  have N1207 := Fr.app N0 N1206
  obtain ⟨E1206, F0_1206, F1_1206, F2_1206, F3_1206, F4_1206, F5_1206, F6_1206, F7_1206, F8_1206, F9_1206, F10_1206, F11_1206, F12_1206, F13_1206, V0_1206, V1_1206, V2_1206, V3_1206, V4_1206, V5_1206, V6_1206, V7_1206, V8_1206, V9_1206, V10_1206⟩ := B1206
  show own_Go p e below G (T1206.setTop (mkF m 5 #[.val (.ref a), .val (.int (1 : Int32)), .val (.long vb), .second, .val (.long vp), .second, .unset] [(.int (1 : Int32))]))
  refine own_istore X1206 hx (hb hby d4_5) #[.val (.ref a), .val (.int (1 : Int32)), .val (.long vb), .second, .val (.long vp), .second, .val (.int (1 : Int32))] rfl 7 rfl ?_
  refine own_aloadN X1206 hx (hb hby d4_7) rfl rfl 8 rfl ?_
  refine own_getF X1206 hx hZ hown (own_w hw 40 rfl) Via.refl (rfl : T1206.heap = T1206.heap) F11_1206 (hb hby d4_8) 11 rfl (fun T1208 X1208 e1208 => ?_)
  refine own_iload X1208 hx (hb hby d4_11) rfl 13 rfl ?_
  refine own_lloadN X1208 hx (hb hby d4_13) rfl 14 rfl ?_
  refine own_lastore X1208 hx hZ e1208 V8_1206 1 rfl (by simp) (hb hby d4_14) 15 rfl (fun T1209 h1209 X1209 e1209 W1209 V1209 => ?_)
  rw [show [va, (0 : Int64)].set 1 vb = [va, vb] from rfl] at V1209
  have N1210 := Fr.snoc X1209 N1207 (by omega)
  have Z1211 : n0 ≤ h1209.size := by rw [W1209.size]; exact Z1206
  have E1212 := E1206.wr W1209
  have F1213 := F0_1206.other W1209 (Or.inl (Nat.ne_of_lt (by omega)))
  have F1214 := F1_1206.other W1209 (Or.inl (Nat.ne_of_lt (by omega)))
  have F1215 := F2_1206.other W1209 (Or.inl (Nat.ne_of_lt (by omega)))
  have F1216 := F3_1206.other W1209 (Or.inl (Nat.ne_of_lt (by omega)))
  have F1217 := F4_1206.other W1209 (Or.inl (Nat.ne_of_lt (by omega)))
  have F1218 := F5_1206.other W1209 (Or.inl (Nat.ne_of_lt (by omega)))
  have F1219 := F6_1206.other W1209 (Or.inl (Nat.ne_of_lt (by omega)))
  have F1220 := F7_1206.other W1209 (Or.inl (Nat.ne_of_lt (by omega)))
  have F1221 := F8_1206.other W1209 (Or.inl (Nat.ne_of_lt (by omega)))
  have F1222 := F9_1206.other W1209 (Or.inl (Nat.ne_of_lt (by omega)))
  have F1223 := F10_1206.other W1209 (Or.inl (Nat.ne_of_lt (by omega)))
  have F1224 := F11_1206.other W1209 (Or.inl (Nat.ne_of_lt (by omega)))
  have F1225 := F12_1206.other W1209 (Or.inl (Nat.ne_of_lt (by omega)))
  have F1226 := F13_1206.other W1209 (Or.inl (Nat.ne_of_lt (by omega)))
  have V1227 := V0_1206.other W1209 (Nat.ne_of_lt (by omega))
  have V1228 := V1_1206.other W1209 (Nat.ne_of_lt (by omega))
  have V1229 := V2_1206.other W1209 (Nat.ne_of_lt (by omega))
  have V1230 := V3_1206.other W1209 (Nat.ne_of_lt (by omega))
  have V1231 := V4_1206.other W1209 (Nat.ne_of_lt (by omega))
  have V1232 := V5_1206.other W1209 (Nat.ne_of_lt (by omega))
  have V1233 := V6_1206.other W1209 (Nat.ne_of_lt (by omega))
  have V1234 := V7_1206.other W1209 (Nat.ne_of_lt (by omega))
  have V1235 := V9_1206.other W1209 (Ne.symm (Nat.ne_of_lt (by omega)))
  have V1236 := V10_1206.other W1209 (Ne.symm (Nat.ne_of_lt (by omega)))
  refine own_aloadN X1209 hx (hb hby d4_15) rfl rfl 16 rfl ?_
  refine own_getF X1209 hx hZ hown (own_w hw 42 rfl) Via.refl e1209 F1225 (hb hby d4_16) 19 rfl (fun T1237 X1237 e1237 => ?_)
  refine own_iload X1237 hx (hb hby d4_19) rfl 21 rfl ?_
  refine own_lload X1237 hx (hb hby d4_21) rfl 23 rfl ?_
  refine own_lastore X1237 hx hZ e1237 V1235 1 rfl (by simp) (hb hby d4_23) 24 rfl (fun T1238 h1238 X1238 e1238 W1238 V1238 => ?_)
  rw [show [vp, (0 : Int64)].set 1 vp = [vp, vp] from rfl] at V1238
  have N1239 := Fr.snoc X1238 N1210 (by omega)
  have Z1240 : n0 ≤ h1238.size := by rw [W1238.size]; exact Z1211
  have E1241 := E1212.wr W1238
  have F1242 := F1213.other W1238 (Or.inl (Nat.ne_of_lt (by omega)))
  have F1243 := F1214.other W1238 (Or.inl (Nat.ne_of_lt (by omega)))
  have F1244 := F1215.other W1238 (Or.inl (Nat.ne_of_lt (by omega)))
  have F1245 := F1216.other W1238 (Or.inl (Nat.ne_of_lt (by omega)))
  have F1246 := F1217.other W1238 (Or.inl (Nat.ne_of_lt (by omega)))
  have F1247 := F1218.other W1238 (Or.inl (Nat.ne_of_lt (by omega)))
  have F1248 := F1219.other W1238 (Or.inl (Nat.ne_of_lt (by omega)))
  have F1249 := F1220.other W1238 (Or.inl (Nat.ne_of_lt (by omega)))
  have F1250 := F1221.other W1238 (Or.inl (Nat.ne_of_lt (by omega)))
  have F1251 := F1222.other W1238 (Or.inl (Nat.ne_of_lt (by omega)))
  have F1252 := F1223.other W1238 (Or.inl (Nat.ne_of_lt (by omega)))
  have F1253 := F1224.other W1238 (Or.inl (Nat.ne_of_lt (by omega)))
  have F1254 := F1225.other W1238 (Or.inl (Nat.ne_of_lt (by omega)))
  have F1255 := F1226.other W1238 (Or.inl (Nat.ne_of_lt (by omega)))
  have V1256 := V1227.other W1238 (Nat.ne_of_lt (by omega))
  have V1257 := V1228.other W1238 (Nat.ne_of_lt (by omega))
  have V1258 := V1229.other W1238 (Nat.ne_of_lt (by omega))
  have V1259 := V1230.other W1238 (Nat.ne_of_lt (by omega))
  have V1260 := V1231.other W1238 (Nat.ne_of_lt (by omega))
  have V1261 := V1232.other W1238 (Nat.ne_of_lt (by omega))
  have V1262 := V1233.other W1238 (Nat.ne_of_lt (by omega))
  have V1263 := V1234.other W1238 (Nat.ne_of_lt (by omega))
  have V1264 := V1236.other W1238 (Ne.symm (Nat.ne_of_lt (by omega)))
  have V1265 := V1209.other W1238 (Nat.ne_of_lt (by omega))
  refine own_aloadN X1238 hx (hb hby d4_24) rfl rfl 25 rfl ?_
  refine own_iload X1238 hx (hb hby d4_25) rfl 27 rfl ?_
  refine own_callU X1238 hx hZ hown (own_w hw 62 rfl) (own_w hw 63 rfl) (own_w hw 64 rfl) (own_w hw 66 rfl) (own_w hw 65 rfl) (own_w hw 9 rfl) (own_w hw 67 rfl) (by decide) e1238 E1241 (rm16 l Z a0 hw [] a a1_ a2_ a3_ a4_ a5_ a6_ a7_ a8_ a9_ a10_ a11_ va vb vp h1238 n0 Z1240 ga hord ⟨E1241, F1242, F1243, F1244, F1245, F1246, F1247, F1248, F1249, F1250, F1251, F1252, F1253, F1254, F1255, V1256, V1257, V1258, V1259, V1260, V1261, V1262, V1263, V1265, V1238, V1264⟩ hc) (by rw [hml]; rfl) pd_5 (argsL := [(.int (1 : Int32))]) rfl (rest := []) rfl (hb hby d4_27) 0 (Nat.le_of_eq rfl) (by decide) (by decide) (by decide) (by decide) 30 rfl (fun T1600 L1600 v1600 X1600 hQ1600 => ?_)
  obtain ⟨rfl, N1600, Z1600, B1600⟩ := hQ1600
  have N1601 := Fr.app N1239 N1600
  obtain ⟨E1600, F0_1600, F1_1600, F2_1600, F3_1600, F4_1600, F5_1600, F6_1600, F7_1600, F8_1600, F9_1600, F10_1600, F11_1600, F12_1600, F13_1600, V0_1600, V1_1600, V2_1600, V3_1600, V4_1600, V5_1600, V6_1600, V7_1600, V8_1600, V9_1600, V10_1600⟩ := B1600
  show own_Go p e below G (T1600.setTop (mkF m 30 #[.val (.ref a), .val (.int (1 : Int32)), .val (.long vb), .second, .val (.long vp), .second, .val (.int (1 : Int32))] []))
  refine own_return X1600 hx Bd.notSynchronized hG Bd.returns (hb hby d4_30) (by decide) (by decide) ?_
  skip
  exact ⟨rfl, N1601, Z1600, ⟨E1600, F0_1600, F1_1600, F2_1600, F3_1600, F4_1600, F5_1600, F6_1600, F7_1600, F8_1600, F9_1600, F10_1600, F11_1600, F12_1600, F13_1600, V0_1600, V1_1600, V2_1600, V3_1600, V4_1600, V5_1600, V6_1600, V7_1600, V8_1600, V9_1600, V10_1600⟩⟩
def Q35 (Z : State) (a a1_ a2_ a3_ a4_ a5_ a6_ a7_ a8_ a9_ a10_ a11_ : Addr) (va vb vp : Int64) (h0 : Heap) (n0 : Nat) (v : Option Value) (h : Heap) (L : List Loc) : Prop := v = some (.int (1 : Int32)) ∧ Fr n0 L ∧ h = h0
theorem ef_rm35 (m : MethodId) (x0 : Addr) (x1 : Int32) (x2 : Int32) : entryFrame m #[(.ref x0), (.int x1), (.int x2)] 3 = mkF m 0 #[.val (.ref x0), .val (.int x1), .val (.int x2)] [] := by first | (simp [entryFrame, mkF, argsToLocals, Value.category, maxLocals]; done) | rfl
set_option maxRecDepth 65536 in
set_option maxHeartbeats 40000000 in
theorem rm35 (l : Launch) (Z : State) (a0 : Array Value) (hw : ∀ d ∈ tables_1, d.before a0 Z = true) (ws : List Jvm.Cond) (a a1_ a2_ a3_ a4_ a5_ a6_ a7_ a8_ a9_ a10_ a11_ : Addr) (va vb vp : Int64) (h0 : Heap) (n0 : Nat) (Z0 : n0 ≤ h0.size) (ga : n0 ≤ a) (hord : own_Or a a1_ a2_ a3_ a4_ a5_ a6_ a7_ a8_ a9_ a10_ a11_) (B : own_PE Z h0 a a1_ a2_ a3_ a4_ a5_ a6_ a7_ a8_ a9_ a10_ a11_ (0 : Int32) (0 : Int32) (2 : Int32) ((List.replicate 127 (0 : Int32)).set 0 (0 : Int32)) ((List.replicate 127 (0 : Int32)).set 0 (1 : Int32)) [(0 : Int32), (1 : Int32)] [(1 : Int32), (0 : Int32)] [(-1 : Int32), (-1 : Int32)] [(1 : Int32), (-1 : Int32)] [(2 : Int32), (1 : Int32)] [va, vb] [vp, vp] [(((0 : Int64) + vp) + (((0 : Int64) + vp) + (0 : Int64))), (((0 : Int64) + vp) + (0 : Int64))]) (hc : va < vb) :
    MetFree l own_y17 (head1 (Jvm.Cond.code own_y17 prog_66_method_9_code 3 (some .boolean) :: ws) ({ frames := 0, cells := 0, slots := 0, locals := 0 } : Room)) (fun aR U => aR = #[(.ref a), (.int (0 : Int32)), (.int (1 : Int32))] ∧ Z.Warmed39 U.vm ∧ U.heap = h0) (fun _ _ _ _ _ => True) (fun _ U o U' => ∃ v L, o = .returned v ∧ Q35 Z a a1_ a2_ a3_ a4_ a5_ a6_ a7_ a8_ a9_ a10_ a11_ va vb vp h0 n0 v U'.heap L ∧ FrameEnd U o U' L ({ frames := 0, cells := 0, slots := 0, locals := 0 } : Room).cells ({ frames := 0, cells := 0, slots := 0, locals := 0 } : Room).slots) := by
  refine MetFree.of_bodySF pf_17 hisR ?_
  intro p e s m args below meth c s₁ Bd hml0 hP hK
  obtain ⟨rfl, hZ, hhE⟩ := hP
  have hx := Bd.exec
  have hby := Bd.bytes
  have hml : c.maxLocals = 3 := hml0
  have hown : s.vm.findClass "com/example/equitide/equitide/policy/backfilling/PlannedEnds" = some m.cls := findClass_of_methodNamed Bd.named
  have hnm := (name_of_methodNamed Bd.named Bd.method).1
  have X0 : Stand p l e ({ frames := 0, cells := 0, slots := 0, locals := 0 } : Room) s m #[(.ref a), (.int (0 : Int32)), (.int (1 : Int32))] below meth c s₁ [] 0 0 := Stand.of_body Bd
  have e0 : s₁.heap = h0 := by rw [← hhE, Bd.state]; rfl
  have N0 := Fr.nil n0
  show own_Go p e below (own_Post s (Q35 Z a a1_ a2_ a3_ a4_ a5_ a6_ a7_ a8_ a9_ a10_ a11_ va vb vp h0 n0) ({ frames := 0, cells := 0, slots := 0, locals := 0 } : Room).cells ({ frames := 0, cells := 0, slots := 0, locals := 0 } : Room).slots) (s₁.setTop (entryFrame m #[(.ref a), (.int (0 : Int32)), (.int (1 : Int32))] 3))
  rw [ef_rm35]
  generalize hG : own_Post s (Q35 Z a a1_ a2_ a3_ a4_ a5_ a6_ a7_ a8_ a9_ a10_ a11_ va vb vp h0 n0) ({ frames := 0, cells := 0, slots := 0, locals := 0 } : Room).cells ({ frames := 0, cells := 0, slots := 0, locals := 0 } : Room).slots = G
  obtain ⟨o1, o2, o3, o4, o5, o6, o7, o8, o9, o10, o11⟩ := id hord
  obtain ⟨E0, F0_0, F1_0, F2_0, F3_0, F4_0, F5_0, F6_0, F7_0, F8_0, F9_0, F10_0, F11_0, F12_0, F13_0, V0_0, V1_0, V2_0, V3_0, V4_0, V5_0, V6_0, V7_0, V8_0, V9_0, V10_0⟩ := B
  refine own_aloadN X0 hx (hb hby d17_0) rfl rfl 1 rfl ?_
  refine own_getF X0 hx hZ hown (own_w hw 40 rfl) Via.refl e0 F11_0 (hb hby d17_1) 4 rfl (fun T1604 X1604 e1604 => ?_)
  refine own_iloadN X1604 hx (hb hby d17_4) rfl 5 rfl ?_
  refine own_laload X1604 hx hZ e1604 V8_0 0 rfl va rfl (hb hby d17_5) 6 rfl ?_
  refine own_aloadN X1604 hx (hb hby d17_6) rfl rfl 7 rfl ?_
  refine own_getF X1604 hx hZ hown (own_w hw 40 rfl) Via.refl e1604 F11_0 (hb hby d17_7) 10 rfl (fun T1605 X1605 e1605 => ?_)
  refine own_iloadN X1605 hx (hb hby d17_10) rfl 11 rfl ?_
  refine own_laload X1605 hx hZ e1605 V8_0 1 rfl vb rfl (hb hby d17_11) 12 rfl ?_
  refine own_lcmp X1605 hx (hb hby d17_12) 13 rfl ?_
  refine own_ifN X1605 hx (hb hby d17_13) (own_neL (own_lne hc)).1 16 rfl ?_
  refine own_aloadN X1605 hx (hb hby d17_16) rfl rfl 17 rfl ?_
  refine own_getF X1605 hx hZ hown (own_w hw 40 rfl) Via.refl e1605 F11_0 (hb hby d17_17) 20 rfl (fun T1606 X1606 e1606 => ?_)
  refine own_iloadN X1606 hx (hb hby d17_20) rfl 21 rfl ?_
  refine own_laload X1606 hx hZ e1606 V8_0 0 rfl va rfl (hb hby d17_21) 22 rfl ?_
  refine own_aloadN X1606 hx (hb hby d17_22) rfl rfl 23 rfl ?_
  refine own_getF X1606 hx hZ hown (own_w hw 40 rfl) Via.refl e1606 F11_0 (hb hby d17_23) 26 rfl (fun T1607 X1607 e1607 => ?_)
  refine own_iloadN X1607 hx (hb hby d17_26) rfl 27 rfl ?_
  refine own_laload X1607 hx hZ e1607 V8_0 1 rfl vb rfl (hb hby d17_27) 28 rfl ?_
  refine own_lcmp X1607 hx (hb hby d17_28) 29 rfl ?_
  refine own_ifN X1607 hx (hb hby d17_29) (own_ltL hc).2 32 rfl ?_
  refine own_iconst X1607 hx (hb hby d17_32) (1 : Int32) rfl 33 rfl ?_
  refine own_goto X1607 hx (hb hby d17_33) 50 ⟨by decide, by decide⟩ ?_
  refine own_nreturn X1607 hx Bd.notSynchronized hG Bd.returns (by simp) (hb hby d17_50) (by decide) (by decide) ?_
  rw [e1607]
  exact ⟨rfl, N0, rfl⟩
def Q36 (Z : State) (a a1_ a2_ a3_ a4_ a5_ a6_ a7_ a8_ a9_ a10_ a11_ : Addr) (va vb vp : Int64) (h0 : Heap) (n0 : Nat) (v : Option Value) (h : Heap) (L : List Loc) : Prop := v = some (.int (0 : Int32)) ∧ Fr n0 L ∧ h = h0
theorem ef_rm36 (m : MethodId) (x0 : Addr) (x1 : Int32) (x2 : Int32) : entryFrame m #[(.ref x0), (.int x1), (.int x2)] 3 = mkF m 0 #[.val (.ref x0), .val (.int x1), .val (.int x2)] [] := by first | (simp [entryFrame, mkF, argsToLocals, Value.category, maxLocals]; done) | rfl
set_option maxRecDepth 65536 in
set_option maxHeartbeats 40000000 in
theorem rm36 (l : Launch) (Z : State) (a0 : Array Value) (hw : ∀ d ∈ tables_1, d.before a0 Z = true) (ws : List Jvm.Cond) (a a1_ a2_ a3_ a4_ a5_ a6_ a7_ a8_ a9_ a10_ a11_ : Addr) (va vb vp : Int64) (h0 : Heap) (n0 : Nat) (Z0 : n0 ≤ h0.size) (ga : n0 ≤ a) (hord : own_Or a a1_ a2_ a3_ a4_ a5_ a6_ a7_ a8_ a9_ a10_ a11_) (B : own_PE Z h0 a a1_ a2_ a3_ a4_ a5_ a6_ a7_ a8_ a9_ a10_ a11_ (0 : Int32) (0 : Int32) (2 : Int32) ((List.replicate 127 (0 : Int32)).set 0 (0 : Int32)) ((List.replicate 127 (0 : Int32)).set 0 (1 : Int32)) [(0 : Int32), (1 : Int32)] [(1 : Int32), (0 : Int32)] [(-1 : Int32), (-1 : Int32)] [(1 : Int32), (-1 : Int32)] [(2 : Int32), (1 : Int32)] [va, vb] [vp, vp] [(((0 : Int64) + vp) + (((0 : Int64) + vp) + (0 : Int64))), (((0 : Int64) + vp) + (0 : Int64))]) (hc : va < vb) :
    MetFree l own_y17 (head1 (Jvm.Cond.code own_y17 prog_66_method_9_code 3 (some .boolean) :: ws) ({ frames := 0, cells := 0, slots := 0, locals := 0 } : Room)) (fun aR U => aR = #[(.ref a), (.int (1 : Int32)), (.int (0 : Int32))] ∧ Z.Warmed39 U.vm ∧ U.heap = h0) (fun _ _ _ _ _ => True) (fun _ U o U' => ∃ v L, o = .returned v ∧ Q36 Z a a1_ a2_ a3_ a4_ a5_ a6_ a7_ a8_ a9_ a10_ a11_ va vb vp h0 n0 v U'.heap L ∧ FrameEnd U o U' L ({ frames := 0, cells := 0, slots := 0, locals := 0 } : Room).cells ({ frames := 0, cells := 0, slots := 0, locals := 0 } : Room).slots) := by
  refine MetFree.of_bodySF pf_17 hisR ?_
  intro p e s m args below meth c s₁ Bd hml0 hP hK
  obtain ⟨rfl, hZ, hhE⟩ := hP
  have hx := Bd.exec
  have hby := Bd.bytes
  have hml : c.maxLocals = 3 := hml0
  have hown : s.vm.findClass "com/example/equitide/equitide/policy/backfilling/PlannedEnds" = some m.cls := findClass_of_methodNamed Bd.named
  have hnm := (name_of_methodNamed Bd.named Bd.method).1
  have X0 : Stand p l e ({ frames := 0, cells := 0, slots := 0, locals := 0 } : Room) s m #[(.ref a), (.int (1 : Int32)), (.int (0 : Int32))] below meth c s₁ [] 0 0 := Stand.of_body Bd
  have e0 : s₁.heap = h0 := by rw [← hhE, Bd.state]; rfl
  have N0 := Fr.nil n0
  show own_Go p e below (own_Post s (Q36 Z a a1_ a2_ a3_ a4_ a5_ a6_ a7_ a8_ a9_ a10_ a11_ va vb vp h0 n0) ({ frames := 0, cells := 0, slots := 0, locals := 0 } : Room).cells ({ frames := 0, cells := 0, slots := 0, locals := 0 } : Room).slots) (s₁.setTop (entryFrame m #[(.ref a), (.int (1 : Int32)), (.int (0 : Int32))] 3))
  rw [ef_rm36]
  generalize hG : own_Post s (Q36 Z a a1_ a2_ a3_ a4_ a5_ a6_ a7_ a8_ a9_ a10_ a11_ va vb vp h0 n0) ({ frames := 0, cells := 0, slots := 0, locals := 0 } : Room).cells ({ frames := 0, cells := 0, slots := 0, locals := 0 } : Room).slots = G
  obtain ⟨o1, o2, o3, o4, o5, o6, o7, o8, o9, o10, o11⟩ := id hord
  obtain ⟨E0, F0_0, F1_0, F2_0, F3_0, F4_0, F5_0, F6_0, F7_0, F8_0, F9_0, F10_0, F11_0, F12_0, F13_0, V0_0, V1_0, V2_0, V3_0, V4_0, V5_0, V6_0, V7_0, V8_0, V9_0, V10_0⟩ := B
  refine own_aloadN X0 hx (hb hby d17_0) rfl rfl 1 rfl ?_
  refine own_getF X0 hx hZ hown (own_w hw 40 rfl) Via.refl e0 F11_0 (hb hby d17_1) 4 rfl (fun T1610 X1610 e1610 => ?_)
  refine own_iloadN X1610 hx (hb hby d17_4) rfl 5 rfl ?_
  refine own_laload X1610 hx hZ e1610 V8_0 1 rfl vb rfl (hb hby d17_5) 6 rfl ?_
  refine own_aloadN X1610 hx (hb hby d17_6) rfl rfl 7 rfl ?_
  refine own_getF X1610 hx hZ hown (own_w hw 40 rfl) Via.refl e1610 F11_0 (hb hby d17_7) 10 rfl (fun T1611 X1611 e1611 => ?_)
  refine own_iloadN X1611 hx (hb hby d17_10) rfl 11 rfl ?_
  refine own_laload X1611 hx hZ e1611 V8_0 0 rfl va rfl (hb hby d17_11) 12 rfl ?_
  refine own_lcmp X1611 hx (hb hby d17_12) 13 rfl ?_
  refine own_ifN X1611 hx (hb hby d17_13) (own_neL (own_lne' hc)).1 16 rfl ?_
  refine own_aloadN X1611 hx (hb hby d17_16) rfl rfl 17 rfl ?_
  refine own_getF X1611 hx hZ hown (own_w hw 40 rfl) Via.refl e1611 F11_0 (hb hby d17_17) 20 rfl (fun T1612 X1612 e1612 => ?_)
  refine own_iloadN X1612 hx (hb hby d17_20) rfl 21 rfl ?_
  refine own_laload X1612 hx hZ e1612 V8_0 1 rfl vb rfl (hb hby d17_21) 22 rfl ?_
  refine own_aloadN X1612 hx (hb hby d17_22) rfl rfl 23 rfl ?_
  refine own_getF X1612 hx hZ hown (own_w hw 40 rfl) Via.refl e1612 F11_0 (hb hby d17_23) 26 rfl (fun T1613 X1613 e1613 => ?_)
  refine own_iloadN X1613 hx (hb hby d17_26) rfl 27 rfl ?_
  refine own_laload X1613 hx hZ e1613 V8_0 0 rfl va rfl (hb hby d17_27) 28 rfl ?_
  refine own_lcmp X1613 hx (hb hby d17_28) 29 rfl ?_
  refine own_ifY X1613 hx (hb hby d17_29) (own_nltL (own_lgt hc)).2 36 ⟨by decide, by decide⟩ ?_
  refine own_iconst X1613 hx (hb hby d17_36) (0 : Int32) rfl 37 rfl ?_
  refine own_goto X1613 hx (hb hby d17_37) 50 ⟨by decide, by decide⟩ ?_
  refine own_nreturn X1613 hx Bd.notSynchronized hG Bd.returns (by simp) (hb hby d17_50) (by decide) (by decide) ?_
  rw [e1613]
  exact ⟨rfl, N0, rfl⟩
def Q37 (Z : State) (a a1_ a2_ a3_ a4_ a5_ a6_ a7_ a8_ a9_ a10_ a11_ : Addr) (va vb vp : Int64) (h0 : Heap) (n0 : Nat) (v : Option Value) (h : Heap) (L : List Loc) : Prop := v = some (.int (0 : Int32)) ∧ Fr n0 L ∧ h = h0
theorem ef_rm37 (m : MethodId) (x0 : Addr) (x1 : Int32) (x2 : Int32) : entryFrame m #[(.ref x0), (.int x1), (.int x2)] 3 = mkF m 0 #[.val (.ref x0), .val (.int x1), .val (.int x2)] [] := by first | (simp [entryFrame, mkF, argsToLocals, Value.category, maxLocals]; done) | rfl
set_option maxRecDepth 65536 in
set_option maxHeartbeats 40000000 in
theorem rm37 (l : Launch) (Z : State) (a0 : Array Value) (hw : ∀ d ∈ tables_1, d.before a0 Z = true) (ws : List Jvm.Cond) (a a1_ a2_ a3_ a4_ a5_ a6_ a7_ a8_ a9_ a10_ a11_ : Addr) (va vb vp : Int64) (h0 : Heap) (n0 : Nat) (Z0 : n0 ≤ h0.size) (ga : n0 ≤ a) (hord : own_Or a a1_ a2_ a3_ a4_ a5_ a6_ a7_ a8_ a9_ a10_ a11_) (B : own_PE Z h0 a a1_ a2_ a3_ a4_ a5_ a6_ a7_ a8_ a9_ a10_ a11_ (0 : Int32) (0 : Int32) (2 : Int32) ((List.replicate 127 (0 : Int32)).set 0 (0 : Int32)) ((List.replicate 127 (0 : Int32)).set 0 (1 : Int32)) [(0 : Int32), (1 : Int32)] [(1 : Int32), (0 : Int32)] [(-1 : Int32), (-1 : Int32)] [(1 : Int32), (-1 : Int32)] [(2 : Int32), (1 : Int32)] [va, vb] [vp, vp] [(((0 : Int64) + vp) + (((0 : Int64) + vp) + (0 : Int64))), (((0 : Int64) + vp) + (0 : Int64))]) (hc : va < vb) :
    MetFree l own_y17 (head1 (Jvm.Cond.code own_y17 prog_66_method_9_code 3 (some .boolean) :: ws) ({ frames := 0, cells := 0, slots := 0, locals := 0 } : Room)) (fun aR U => aR = #[(.ref a), (.int (0 : Int32)), (.int (0 : Int32))] ∧ Z.Warmed39 U.vm ∧ U.heap = h0) (fun _ _ _ _ _ => True) (fun _ U o U' => ∃ v L, o = .returned v ∧ Q37 Z a a1_ a2_ a3_ a4_ a5_ a6_ a7_ a8_ a9_ a10_ a11_ va vb vp h0 n0 v U'.heap L ∧ FrameEnd U o U' L ({ frames := 0, cells := 0, slots := 0, locals := 0 } : Room).cells ({ frames := 0, cells := 0, slots := 0, locals := 0 } : Room).slots) := by
  refine MetFree.of_bodySF pf_17 hisR ?_
  intro p e s m args below meth c s₁ Bd hml0 hP hK
  obtain ⟨rfl, hZ, hhE⟩ := hP
  have hx := Bd.exec
  have hby := Bd.bytes
  have hml : c.maxLocals = 3 := hml0
  have hown : s.vm.findClass "com/example/equitide/equitide/policy/backfilling/PlannedEnds" = some m.cls := findClass_of_methodNamed Bd.named
  have hnm := (name_of_methodNamed Bd.named Bd.method).1
  have X0 : Stand p l e ({ frames := 0, cells := 0, slots := 0, locals := 0 } : Room) s m #[(.ref a), (.int (0 : Int32)), (.int (0 : Int32))] below meth c s₁ [] 0 0 := Stand.of_body Bd
  have e0 : s₁.heap = h0 := by rw [← hhE, Bd.state]; rfl
  have N0 := Fr.nil n0
  show own_Go p e below (own_Post s (Q37 Z a a1_ a2_ a3_ a4_ a5_ a6_ a7_ a8_ a9_ a10_ a11_ va vb vp h0 n0) ({ frames := 0, cells := 0, slots := 0, locals := 0 } : Room).cells ({ frames := 0, cells := 0, slots := 0, locals := 0 } : Room).slots) (s₁.setTop (entryFrame m #[(.ref a), (.int (0 : Int32)), (.int (0 : Int32))] 3))
  rw [ef_rm37]
  generalize hG : own_Post s (Q37 Z a a1_ a2_ a3_ a4_ a5_ a6_ a7_ a8_ a9_ a10_ a11_ va vb vp h0 n0) ({ frames := 0, cells := 0, slots := 0, locals := 0 } : Room).cells ({ frames := 0, cells := 0, slots := 0, locals := 0 } : Room).slots = G
  obtain ⟨o1, o2, o3, o4, o5, o6, o7, o8, o9, o10, o11⟩ := id hord
  obtain ⟨E0, F0_0, F1_0, F2_0, F3_0, F4_0, F5_0, F6_0, F7_0, F8_0, F9_0, F10_0, F11_0, F12_0, F13_0, V0_0, V1_0, V2_0, V3_0, V4_0, V5_0, V6_0, V7_0, V8_0, V9_0, V10_0⟩ := B
  refine own_aloadN X0 hx (hb hby d17_0) rfl rfl 1 rfl ?_
  refine own_getF X0 hx hZ hown (own_w hw 40 rfl) Via.refl e0 F11_0 (hb hby d17_1) 4 rfl (fun T1616 X1616 e1616 => ?_)
  refine own_iloadN X1616 hx (hb hby d17_4) rfl 5 rfl ?_
  refine own_laload X1616 hx hZ e1616 V8_0 0 rfl va rfl (hb hby d17_5) 6 rfl ?_
  refine own_aloadN X1616 hx (hb hby d17_6) rfl rfl 7 rfl ?_
  refine own_getF X1616 hx hZ hown (own_w hw 40 rfl) Via.refl e1616 F11_0 (hb hby d17_7) 10 rfl (fun T1617 X1617 e1617 => ?_)
  refine own_iloadN X1617 hx (hb hby d17_10) rfl 11 rfl ?_
  refine own_laload X1617 hx hZ e1617 V8_0 0 rfl va rfl (hb hby d17_11) 12 rfl ?_
  refine own_lcmp X1617 hx (hb hby d17_12) 13 rfl ?_
  refine own_ifY X1617 hx (hb hby d17_13) (own_eqL rfl).1 40 ⟨by decide, by decide⟩ ?_
  refine own_iloadN X1617 hx (hb hby d17_40) rfl 41 rfl ?_
  refine own_iloadN X1617 hx (hb hby d17_41) rfl 42 rfl ?_
  refine own_icmpY X1617 hx (hb hby d17_42) (flt (by decide)).2.1 49 ⟨by decide, by decide⟩ ?_
  refine own_iconst X1617 hx (hb hby d17_49) (0 : Int32) rfl 50 rfl ?_
  refine own_nreturn X1617 hx Bd.notSynchronized hG Bd.returns (by simp) (hb hby d17_50) (by decide) (by decide) ?_
  rw [e1617]
  exact ⟨rfl, N0, rfl⟩
def Q38 (Z : State) (a a1_ a2_ a3_ a4_ a5_ a6_ a7_ a8_ a9_ a10_ a11_ : Addr) (va vb vp : Int64) (h0 : Heap) (n0 : Nat) (v : Option Value) (h : Heap) (L : List Loc) : Prop := v = some (.int (0 : Int32)) ∧ Fr n0 L ∧ h = h0
theorem ef_rm38 (m : MethodId) (x0 : Addr) (x1 : Int32) (x2 : Int32) : entryFrame m #[(.ref x0), (.int x1), (.int x2)] 3 = mkF m 0 #[.val (.ref x0), .val (.int x1), .val (.int x2)] [] := by first | (simp [entryFrame, mkF, argsToLocals, Value.category, maxLocals]; done) | rfl
set_option maxRecDepth 65536 in
set_option maxHeartbeats 40000000 in
theorem rm38 (l : Launch) (Z : State) (a0 : Array Value) (hw : ∀ d ∈ tables_1, d.before a0 Z = true) (ws : List Jvm.Cond) (a a1_ a2_ a3_ a4_ a5_ a6_ a7_ a8_ a9_ a10_ a11_ : Addr) (va vb vp : Int64) (h0 : Heap) (n0 : Nat) (Z0 : n0 ≤ h0.size) (ga : n0 ≤ a) (hord : own_Or a a1_ a2_ a3_ a4_ a5_ a6_ a7_ a8_ a9_ a10_ a11_) (B : own_PE Z h0 a a1_ a2_ a3_ a4_ a5_ a6_ a7_ a8_ a9_ a10_ a11_ (0 : Int32) (0 : Int32) (2 : Int32) ((List.replicate 127 (0 : Int32)).set 0 (0 : Int32)) ((List.replicate 127 (0 : Int32)).set 0 (1 : Int32)) [(0 : Int32), (1 : Int32)] [(1 : Int32), (0 : Int32)] [(-1 : Int32), (-1 : Int32)] [(1 : Int32), (-1 : Int32)] [(2 : Int32), (1 : Int32)] [va, vb] [vp, vp] [(((0 : Int64) + vp) + (((0 : Int64) + vp) + (0 : Int64))), (((0 : Int64) + vp) + (0 : Int64))]) (hc : va < vb) :
    MetFree l own_y17 (head1 (Jvm.Cond.code own_y17 prog_66_method_9_code 3 (some .boolean) :: ws) ({ frames := 0, cells := 0, slots := 0, locals := 0 } : Room)) (fun aR U => aR = #[(.ref a), (.int (1 : Int32)), (.int (1 : Int32))] ∧ Z.Warmed39 U.vm ∧ U.heap = h0) (fun _ _ _ _ _ => True) (fun _ U o U' => ∃ v L, o = .returned v ∧ Q38 Z a a1_ a2_ a3_ a4_ a5_ a6_ a7_ a8_ a9_ a10_ a11_ va vb vp h0 n0 v U'.heap L ∧ FrameEnd U o U' L ({ frames := 0, cells := 0, slots := 0, locals := 0 } : Room).cells ({ frames := 0, cells := 0, slots := 0, locals := 0 } : Room).slots) := by
  refine MetFree.of_bodySF pf_17 hisR ?_
  intro p e s m args below meth c s₁ Bd hml0 hP hK
  obtain ⟨rfl, hZ, hhE⟩ := hP
  have hx := Bd.exec
  have hby := Bd.bytes
  have hml : c.maxLocals = 3 := hml0
  have hown : s.vm.findClass "com/example/equitide/equitide/policy/backfilling/PlannedEnds" = some m.cls := findClass_of_methodNamed Bd.named
  have hnm := (name_of_methodNamed Bd.named Bd.method).1
  have X0 : Stand p l e ({ frames := 0, cells := 0, slots := 0, locals := 0 } : Room) s m #[(.ref a), (.int (1 : Int32)), (.int (1 : Int32))] below meth c s₁ [] 0 0 := Stand.of_body Bd
  have e0 : s₁.heap = h0 := by rw [← hhE, Bd.state]; rfl
  have N0 := Fr.nil n0
  show own_Go p e below (own_Post s (Q38 Z a a1_ a2_ a3_ a4_ a5_ a6_ a7_ a8_ a9_ a10_ a11_ va vb vp h0 n0) ({ frames := 0, cells := 0, slots := 0, locals := 0 } : Room).cells ({ frames := 0, cells := 0, slots := 0, locals := 0 } : Room).slots) (s₁.setTop (entryFrame m #[(.ref a), (.int (1 : Int32)), (.int (1 : Int32))] 3))
  rw [ef_rm38]
  generalize hG : own_Post s (Q38 Z a a1_ a2_ a3_ a4_ a5_ a6_ a7_ a8_ a9_ a10_ a11_ va vb vp h0 n0) ({ frames := 0, cells := 0, slots := 0, locals := 0 } : Room).cells ({ frames := 0, cells := 0, slots := 0, locals := 0 } : Room).slots = G
  obtain ⟨o1, o2, o3, o4, o5, o6, o7, o8, o9, o10, o11⟩ := id hord
  obtain ⟨E0, F0_0, F1_0, F2_0, F3_0, F4_0, F5_0, F6_0, F7_0, F8_0, F9_0, F10_0, F11_0, F12_0, F13_0, V0_0, V1_0, V2_0, V3_0, V4_0, V5_0, V6_0, V7_0, V8_0, V9_0, V10_0⟩ := B
  refine own_aloadN X0 hx (hb hby d17_0) rfl rfl 1 rfl ?_
  refine own_getF X0 hx hZ hown (own_w hw 40 rfl) Via.refl e0 F11_0 (hb hby d17_1) 4 rfl (fun T1620 X1620 e1620 => ?_)
  refine own_iloadN X1620 hx (hb hby d17_4) rfl 5 rfl ?_
  refine own_laload X1620 hx hZ e1620 V8_0 1 rfl vb rfl (hb hby d17_5) 6 rfl ?_
  refine own_aloadN X1620 hx (hb hby d17_6) rfl rfl 7 rfl ?_
  refine own_getF X1620 hx hZ hown (own_w hw 40 rfl) Via.refl e1620 F11_0 (hb hby d17_7) 10 rfl (fun T1621 X1621 e1621 => ?_)
  refine own_iloadN X1621 hx (hb hby d17_10) rfl 11 rfl ?_
  refine own_laload X1621 hx hZ e1621 V8_0 1 rfl vb rfl (hb hby d17_11) 12 rfl ?_
  refine own_lcmp X1621 hx (hb hby d17_12) 13 rfl ?_
  refine own_ifY X1621 hx (hb hby d17_13) (own_eqL rfl).1 40 ⟨by decide, by decide⟩ ?_
  refine own_iloadN X1621 hx (hb hby d17_40) rfl 41 rfl ?_
  refine own_iloadN X1621 hx (hb hby d17_41) rfl 42 rfl ?_
  refine own_icmpY X1621 hx (hb hby d17_42) (flt (by decide)).2.1 49 ⟨by decide, by decide⟩ ?_
  refine own_iconst X1621 hx (hb hby d17_49) (0 : Int32) rfl 50 rfl ?_
  refine own_nreturn X1621 hx Bd.notSynchronized hG Bd.returns (by simp) (hb hby d17_50) (by decide) (by decide) ?_
  rw [e1621]
  exact ⟨rfl, N0, rfl⟩
def Q41 (Z : State) (a a1_ a2_ a3_ a4_ a5_ a6_ a7_ a8_ a9_ a10_ a11_ : Addr) (va vb vp : Int64) (h0 : Heap) (n0 : Nat) (v : Option Value) (h : Heap) (L : List Loc) : Prop := v = some (.int (1 : Int32)) ∧ Fr n0 L ∧ n0 ≤ h.size ∧ own_PE Z h a a1_ a2_ a3_ a4_ a5_ a6_ a7_ a8_ a9_ a10_ a11_ (0 : Int32) (0 : Int32) (1 : Int32) (List.replicate 127 (0 : Int32)) (List.replicate 127 (0 : Int32)) [(0 : Int32), (0 : Int32)] [(1 : Int32), (0 : Int32)] [(-1 : Int32), (-1 : Int32)] [(-1 : Int32), (-1 : Int32)] [(1 : Int32), (0 : Int32)] [va, (0 : Int64)] [vp, (0 : Int64)] [(((0 : Int64) + vp) + (0 : Int64)), (0 : Int64)]
theorem ef_rm41 (m : MethodId) (x0 : Addr) : entryFrame m #[(.ref x0)] 2 = mkF m 0 #[.val (.ref x0), .unset] [] := by first | (simp [entryFrame, mkF, argsToLocals, Value.category, maxLocals]; done) | rfl
set_option maxRecDepth 65536 in
set_option maxHeartbeats 40000000 in
theorem rm41 (l : Launch) (Z : State) (a0 : Array Value) (hw : ∀ d ∈ tables_1, d.before a0 Z = true) (ws : List Jvm.Cond) (a a1_ a2_ a3_ a4_ a5_ a6_ a7_ a8_ a9_ a10_ a11_ : Addr) (va vb vp : Int64) (h0 : Heap) (n0 : Nat) (Z0 : n0 ≤ h0.size) (ga : n0 ≤ a) (hord : own_Or a a1_ a2_ a3_ a4_ a5_ a6_ a7_ a8_ a9_ a10_ a11_) (B : own_PE Z h0 a a1_ a2_ a3_ a4_ a5_ a6_ a7_ a8_ a9_ a10_ a11_ (0 : Int32) (1 : Int32) (1 : Int32) (List.replicate 127 (0 : Int32)) (List.replicate 127 (0 : Int32)) [(0 : Int32), (0 : Int32)] [(1 : Int32), (0 : Int32)] [(-1 : Int32), (0 : Int32)] [(-1 : Int32), (0 : Int32)] [(1 : Int32), (0 : Int32)] [va, (0 : Int64)] [vp, (0 : Int64)] [(((0 : Int64) + vp) + (0 : Int64)), (0 : Int64)]) (hc : va = vb) :
    MetFree l own_y6 (head1 (Jvm.Cond.code own_y6 prog_49_method_11_code 2 (some .int) :: ws) ({ frames := 0, cells := 0, slots := 0, locals := 0 } : Room)) (fun aR U => aR = #[(.ref a)] ∧ Z.Warmed39 U.vm ∧ U.heap = h0) (fun _ _ _ _ _ => True) (fun _ U o U' => ∃ v L, o = .returned v ∧ Q41 Z a a1_ a2_ a3_ a4_ a5_ a6_ a7_ a8_ a9_ a10_ a11_ va vb vp h0 n0 v U'.heap L ∧ FrameEnd U o U' L ({ frames := 0, cells := 0, slots := 0, locals := 0 } : Room).cells ({ frames := 0, cells := 0, slots := 0, locals := 0 } : Room).slots) := by
  refine MetFree.of_bodySF pf_6 hisR ?_
  intro p e s m args below meth c s₁ Bd hml0 hP hK
  obtain ⟨rfl, hZ, hhE⟩ := hP
  have hx := Bd.exec
  have hby := Bd.bytes
  have hml : c.maxLocals = 2 := hml0
  have hown : s.vm.findClass "com/example/equitide/equitide/policy/backfilling/AvlTree" = some m.cls := findClass_of_methodNamed Bd.named
  have hnm := (name_of_methodNamed Bd.named Bd.method).1
  have X0 : Stand p l e ({ frames := 0, cells := 0, slots := 0, locals := 0 } : Room) s m #[(.ref a)] below meth c s₁ [] 0 0 := Stand.of_body Bd
  have e0 : s₁.heap = h0 := by rw [← hhE, Bd.state]; rfl
  have N0 := Fr.nil n0
  show own_Go p e below (own_Post s (Q41 Z a a1_ a2_ a3_ a4_ a5_ a6_ a7_ a8_ a9_ a10_ a11_ va vb vp h0 n0) ({ frames := 0, cells := 0, slots := 0, locals := 0 } : Room).cells ({ frames := 0, cells := 0, slots := 0, locals := 0 } : Room).slots) (s₁.setTop (entryFrame m #[(.ref a)] 2))
  rw [ef_rm41]
  generalize hG : own_Post s (Q41 Z a a1_ a2_ a3_ a4_ a5_ a6_ a7_ a8_ a9_ a10_ a11_ va vb vp h0 n0) ({ frames := 0, cells := 0, slots := 0, locals := 0 } : Room).cells ({ frames := 0, cells := 0, slots := 0, locals := 0 } : Room).slots = G
  obtain ⟨o1, o2, o3, o4, o5, o6, o7, o8, o9, o10, o11⟩ := id hord
  obtain ⟨E0, F0_0, F1_0, F2_0, F3_0, F4_0, F5_0, F6_0, F7_0, F8_0, F9_0, F10_0, F11_0, F12_0, F13_0, V0_0, V1_0, V2_0, V3_0, V4_0, V5_0, V6_0, V7_0, V8_0, V9_0, V10_0⟩ := B
  refine own_aloadN X0 hx (hb hby d6_0) rfl rfl 1 rfl ?_
  refine own_getF X0 hx hZ hown (own_w hw 23 rfl) Via.refl e0 F6_0 (hb hby d6_1) 4 rfl (fun T1624 X1624 e1624 => ?_)
  refine own_aloadN X1624 hx (hb hby d6_4) rfl rfl 5 rfl ?_
  refine own_dup X1624 hx (hb hby d6_5) rfl 6 rfl ?_
  refine own_getF X1624 hx hZ hown (own_w hw 25 rfl) Via.refl e1624 F1_0 (hb hby d6_6) 9 rfl (fun T1625 X1625 e1625 => ?_)
  refine own_iconst X1625 hx (hb hby d6_9) (1 : Int32) rfl 10 rfl ?_
  refine own_isub X1625 hx (hb hby d6_10) 11 rfl ?_
  show own_Go p e below G (T1625.setTop (mkF m 11 #[.val (.ref a), .unset] [(.int (0 : Int32)), (.ref a), (.ref a4_)]))
  refine own_dupX1 X1625 hx (hb hby d6_11) rfl rfl 12 rfl ?_
  refine own_putF X1625 hx hZ hown (own_w hw 25 rfl) Via.refl e1625 F1_0 E0 (Or.inl (own_w hw 26 rfl)) (own_w hw 1 rfl) (ty := .int) (v' := (.int (0 : Int32))) (by decide) rfl rfl (hb hby d6_12) 15 rfl (fun T1626 h1626 X1626 e1626 W1626 => ?_)
  have N1627 := Fr.snoc X1626 N0 ga
  have Z1628 : n0 ≤ h1626.size := by rw [W1626.size]; exact Z0
  have E1629 := E0.wr W1626
  have F1630 := F0_0.other W1626 (Or.inr (sn_65 hw))
  have F1631 := F1_0.same W1626
  have F1632 := F2_0.other W1626 (Or.inr (sn_66 hw))
  have F1633 := F3_0.other W1626 (Or.inr (sn_67 hw))
  have F1634 := F4_0.other W1626 (Or.inr (sn_68 hw))
  have F1635 := F5_0.other W1626 (Or.inr (sn_69 hw))
  have F1636 := F6_0.other W1626 (Or.inr (sn_70 hw))
  have F1637 := F7_0.other W1626 (Or.inr (sn_71 hw))
  have F1638 := F8_0.other W1626 (Or.inr (sn_72 hw))
  have F1639 := F9_0.other W1626 (Or.inr (sn_73 hw))
  have F1640 := F10_0.other W1626 (Or.inr (sn_74 hw))
  have F1641 := F11_0.other W1626 (Or.inr (sn_75 hw))
  have F1642 := F12_0.other W1626 (Or.inr (sn_76 hw))
  have F1643 := F13_0.other W1626 (Or.inr (sn_77 hw))
  have V1644 := V0_0.other W1626 (Ne.symm (Nat.ne_of_lt (by omega)))
  have V1645 := V1_0.other W1626 (Ne.symm (Nat.ne_of_lt (by omega)))
  have V1646 := V2_0.other W1626 (Ne.symm (Nat.ne_of_lt (by omega)))
  have V1647 := V3_0.other W1626 (Ne.symm (Nat.ne_of_lt (by omega)))
  have V1648 := V4_0.other W1626 (Ne.symm (Nat.ne_of_lt (by omega)))
  have V1649 := V5_0.other W1626 (Ne.symm (Nat.ne_of_lt (by omega)))
  have V1650 := V6_0.other W1626 (Ne.symm (Nat.ne_of_lt (by omega)))
  have V1651 := V7_0.other W1626 (Ne.symm (Nat.ne_of_lt (by omega)))
  have V1652 := V8_0.other W1626 (Ne.symm (Nat.ne_of_lt (by omega)))
  have V1653 := V9_0.other W1626 (Ne.symm (Nat.ne_of_lt (by omega)))
  have V1654 := V10_0.other W1626 (Ne.symm (Nat.ne_of_lt (by omega)))
  refine own_iaload X1626 hx hZ e1626 V1647 0 rfl (1 : Int32) rfl (hb hby d6_15) 16 rfl ?_
  refine own_istoreN X1626 hx (hb hby d6_16) #[.val (.ref a), .val (.int (1 : Int32))] rfl 17 rfl ?_
  refine own_aloadN X1626 hx (hb hby d6_17) rfl rfl 18 rfl ?_
  refine own_getF X1626 hx hZ hown (own_w hw 27 rfl) Via.refl e1626 F1637 (hb hby d6_18) 21 rfl (fun T1655 X1655 e1655 => ?_)
  refine own_iloadN X1655 hx (hb hby d6_21) rfl 22 rfl ?_
  refine own_iconst X1655 hx (hb hby d6_22) (-1 : Int32) rfl 23 rfl ?_
  refine own_iastore X1655 hx hZ e1655 V1648 1 rfl (by simp) (hb hby d6_23) 24 rfl (fun T1656 h1656 X1656 e1656 W1656 V1656 => ?_)
  rw [show [(-1 : Int32), (0 : Int32)].set 1 (-1 : Int32) = [(-1 : Int32), (-1 : Int32)] from rfl] at V1656
  have N1657 := Fr.snoc X1656 N1627 (by omega)
  have Z1658 : n0 ≤ h1656.size := by rw [W1656.size]; exact Z1628
  have E1659 := E1629.wr W1656
  have F1660 := F1630.other W1656 (Or.inl (Nat.ne_of_lt (by omega)))
  have F1661 := F1631.other W1656 (Or.inl (Nat.ne_of_lt (by omega)))
  have F1662 := F1632.other W1656 (Or.inl (Nat.ne_of_lt (by omega)))
  have F1663 := F1633.other W1656 (Or.inl (Nat.ne_of_lt (by omega)))
  have F1664 := F1634.other W1656 (Or.inl (Nat.ne_of_lt (by omega)))
  have F1665 := F1635.other W1656 (Or.inl (Nat.ne_of_lt (by omega)))
  have F1666 := F1636.other W1656 (Or.inl (Nat.ne_of_lt (by omega)))
  have F1667 := F1637.other W1656 (Or.inl (Nat.ne_of_lt (by omega)))
  have F1668 := F1638.other W1656 (Or.inl (Nat.ne_of_lt (by omega)))
  have F1669 := F1639.other W1656 (Or.inl (Nat.ne_of_lt (by omega)))
  have F1670 := F1640.other W1656 (Or.inl (Nat.ne_of_lt (by omega)))
  have F1671 := F1641.other W1656 (Or.inl (Nat.ne_of_lt (by omega)))
  have F1672 := F1642.other W1656 (Or.inl (Nat.ne_of_lt (by omega)))
  have F1673 := F1643.other W1656 (Or.inl (Nat.ne_of_lt (by omega)))
  have V1674 := V1644.other W1656 (Nat.ne_of_lt (by omega))
  have V1675 := V1645.other W1656 (Nat.ne_of_lt (by omega))
  have V1676 := V1646.other W1656 (Nat.ne_of_lt (by omega))
  have V1677 := V1647.other W1656 (Nat.ne_of_lt (by omega))
  have V1678 := V1649.other W1656 (Ne.symm (Nat.ne_of_lt (by omega)))
  have V1679 := V1650.other W1656 (Ne.symm (Nat.ne_of_lt (by omega)))
  have V1680 := V1651.other W1656 (Ne.symm (Nat.ne_of_lt (by omega)))
  have V1681 := V1652.other W1656 (Ne.symm (Nat.ne_of_lt (by omega)))
  have V1682 := V1653.other W1656 (Ne.symm (Nat.ne_of_lt (by omega)))
  have V1683 := V1654.other W1656 (Ne.symm (Nat.ne_of_lt (by omega)))
  refine own_aloadN X1656 hx (hb hby d6_24) rfl rfl 25 rfl ?_
  refine own_getF X1656 hx hZ hown (own_w hw 29 rfl) Via.refl e1656 F1668 (hb hby d6_25) 28 rfl (fun T1684 X1684 e1684 => ?_)
  refine own_iloadN X1684 hx (hb hby d6_28) rfl 29 rfl ?_
  refine own_iconst X1684 hx (hb hby d6_29) (-1 : Int32) rfl 30 rfl ?_
  refine own_iastore X1684 hx hZ e1684 V1678 1 rfl (by simp) (hb hby d6_30) 31 rfl (fun T1685 h1685 X1685 e1685 W1685 V1685 => ?_)
  rw [show [(-1 : Int32), (0 : Int32)].set 1 (-1 : Int32) = [(-1 : Int32), (-1 : Int32)] from rfl] at V1685
  have N1686 := Fr.snoc X1685 N1657 (by omega)
  have Z1687 : n0 ≤ h1685.size := by rw [W1685.size]; exact Z1658
  have E1688 := E1659.wr W1685
  have F1689 := F1660.other W1685 (Or.inl (Nat.ne_of_lt (by omega)))
  have F1690 := F1661.other W1685 (Or.inl (Nat.ne_of_lt (by omega)))
  have F1691 := F1662.other W1685 (Or.inl (Nat.ne_of_lt (by omega)))
  have F1692 := F1663.other W1685 (Or.inl (Nat.ne_of_lt (by omega)))
  have F1693 := F1664.other W1685 (Or.inl (Nat.ne_of_lt (by omega)))
  have F1694 := F1665.other W1685 (Or.inl (Nat.ne_of_lt (by omega)))
  have F1695 := F1666.other W1685 (Or.inl (Nat.ne_of_lt (by omega)))
  have F1696 := F1667.other W1685 (Or.inl (Nat.ne_of_lt (by omega)))
  have F1697 := F1668.other W1685 (Or.inl (Nat.ne_of_lt (by omega)))
  have F1698 := F1669.other W1685 (Or.inl (Nat.ne_of_lt (by omega)))
  have F1699 := F1670.other W1685 (Or.inl (Nat.ne_of_lt (by omega)))
  have F1700 := F1671.other W1685 (Or.inl (Nat.ne_of_lt (by omega)))
  have F1701 := F1672.other W1685 (Or.inl (Nat.ne_of_lt (by omega)))
  have F1702 := F1673.other W1685 (Or.inl (Nat.ne_of_lt (by omega)))
  have V1703 := V1674.other W1685 (Nat.ne_of_lt (by omega))
  have V1704 := V1675.other W1685 (Nat.ne_of_lt (by omega))
  have V1705 := V1676.other W1685 (Nat.ne_of_lt (by omega))
  have V1706 := V1677.other W1685 (Nat.ne_of_lt (by omega))
  have V1707 := V1679.other W1685 (Ne.symm (Nat.ne_of_lt (by omega)))
  have V1708 := V1680.other W1685 (Ne.symm (Nat.ne_of_lt (by omega)))
  have V1709 := V1681.other W1685 (Ne.symm (Nat.ne_of_lt (by omega)))
  have V1710 := V1682.other W1685 (Ne.symm (Nat.ne_of_lt (by omega)))
  have V1711 := V1683.other W1685 (Ne.symm (Nat.ne_of_lt (by omega)))
  have V1712 := V1656.other W1685 (Nat.ne_of_lt (by omega))
  refine own_iloadN X1685 hx (hb hby d6_31) rfl 32 rfl ?_
  refine own_ireturn X1685 hx Bd.notSynchronized hG Bd.returns (hb hby d6_32) (by decide) (by decide) ?_
  rw [e1685]
  exact ⟨rfl, N1686, Z1687, ⟨E1688, F1689, F1690, F1691, F1692, F1693, F1694, F1695, F1696, F1697, F1698, F1699, F1700, F1701, F1702, V1703, V1704, V1705, V1706, V1712, V1685, V1707, V1708, V1709, V1710, V1711⟩⟩
def Q40 (Z : State) (a a1_ a2_ a3_ a4_ a5_ a6_ a7_ a8_ a9_ a10_ a11_ : Addr) (va vb vp : Int64) (h0 : Heap) (n0 : Nat) (v : Option Value) (h : Heap) (L : List Loc) : Prop := v = some (.int (1 : Int32)) ∧ Fr n0 L ∧ n0 ≤ h.size ∧ own_PE Z h a a1_ a2_ a3_ a4_ a5_ a6_ a7_ a8_ a9_ a10_ a11_ (0 : Int32) (0 : Int32) (1 : Int32) (List.replicate 127 (0 : Int32)) (List.replicate 127 (0 : Int32)) [(0 : Int32), (1 : Int32)] [(1 : Int32), (0 : Int32)] [(-1 : Int32), (-1 : Int32)] [(-1 : Int32), (-1 : Int32)] [(1 : Int32), (0 : Int32)] [va, (0 : Int64)] [vp, (0 : Int64)] [(((0 : Int64) + vp) + (0 : Int64)), (0 : Int64)]
theorem ef_rm40 (m : MethodId) (x0 : Addr) (x1 : Int32) : entryFrame m #[(.ref x0), (.int x1)] 3 = mkF m 0 #[.val (.ref x0), .val (.int x1), .unset] [] := by first | (simp [entryFrame, mkF, argsToLocals, Value.category, maxLocals]; done) | rfl
set_option maxRecDepth 65536 in
set_option maxHeartbeats 40000000 in
theorem rm40 (l : Launch) (Z : State) (a0 : Array Value) (hw : ∀ d ∈ tables_1, d.before a0 Z = true) (ws : List Jvm.Cond) (a a1_ a2_ a3_ a4_ a5_ a6_ a7_ a8_ a9_ a10_ a11_ : Addr) (va vb vp : Int64) (h0 : Heap) (n0 : Nat) (Z0 : n0 ≤ h0.size) (ga : n0 ≤ a) (hord : own_Or a a1_ a2_ a3_ a4_ a5_ a6_ a7_ a8_ a9_ a10_ a11_) (B : own_PE Z h0 a a1_ a2_ a3_ a4_ a5_ a6_ a7_ a8_ a9_ a10_ a11_ (0 : Int32) (1 : Int32) (1 : Int32) (List.replicate 127 (0 : Int32)) (List.replicate 127 (0 : Int32)) [(0 : Int32), (0 : Int32)] [(1 : Int32), (0 : Int32)] [(-1 : Int32), (0 : Int32)] [(-1 : Int32), (0 : Int32)] [(1 : Int32), (0 : Int32)] [va, (0 : Int64)] [vp, (0 : Int64)] [(((0 : Int64) + vp) + (0 : Int64)), (0 : Int64)]) (hc : va = vb) :
    MetFree l own_y5 (head1 (Jvm.Cond.code own_y5 prog_49_method_10_code 3 (some .int) :: ws) ({ frames := 1, cells := 0, slots := 0, locals := 13 } : Room)) (fun aR U => aR = #[(.ref a), (.int (1 : Int32))] ∧ Z.Warmed39 U.vm ∧ U.heap = h0) (fun _ _ _ _ _ => True) (fun _ U o U' => ∃ v L, o = .returned v ∧ Q40 Z a a1_ a2_ a3_ a4_ a5_ a6_ a7_ a8_ a9_ a10_ a11_ va vb vp h0 n0 v U'.heap L ∧ FrameEnd U o U' L ({ frames := 1, cells := 0, slots := 0, locals := 13 } : Room).cells ({ frames := 1, cells := 0, slots := 0, locals := 13 } : Room).slots) := by
  refine MetFree.of_bodySF pf_5 hisR ?_
  intro p e s m args below meth c s₁ Bd hml0 hP hK
  obtain ⟨rfl, hZ, hhE⟩ := hP
  have hx := Bd.exec
  have hby := Bd.bytes
  have hml : c.maxLocals = 3 := hml0
  have hown : s.vm.findClass "com/example/equitide/equitide/policy/backfilling/AvlTree" = some m.cls := findClass_of_methodNamed Bd.named
  have hnm := (name_of_methodNamed Bd.named Bd.method).1
  have X0 : Stand p l e ({ frames := 1, cells := 0, slots := 0, locals := 13 } : Room) s m #[(.ref a), (.int (1 : Int32))] below meth c s₁ [] 0 0 := Stand.of_body Bd
  have e0 : s₁.heap = h0 := by rw [← hhE, Bd.state]; rfl
  have N0 := Fr.nil n0
  show own_Go p e below (own_Post s (Q40 Z a a1_ a2_ a3_ a4_ a5_ a6_ a7_ a8_ a9_ a10_ a11_ va vb vp h0 n0) ({ frames := 1, cells := 0, slots := 0, locals := 13 } : Room).cells ({ frames := 1, cells := 0, slots := 0, locals := 13 } : Room).slots) (s₁.setTop (entryFrame m #[(.ref a), (.int (1 : Int32))] 3))
  rw [ef_rm40]
  generalize hG : own_Post s (Q40 Z a a1_ a2_ a3_ a4_ a5_ a6_ a7_ a8_ a9_ a10_ a11_ va vb vp h0 n0) ({ frames := 1, cells := 0, slots := 0, locals := 13 } : Room).cells ({ frames := 1, cells := 0, slots := 0, locals := 13 } : Room).slots = G
  obtain ⟨o1, o2, o3, o4, o5, o6, o7, o8, o9, o10, o11⟩ := id hord
  obtain ⟨E0, F0_0, F1_0, F2_0, F3_0, F4_0, F5_0, F6_0, F7_0, F8_0, F9_0, F10_0, F11_0, F12_0, F13_0, V0_0, V1_0, V2_0, V3_0, V4_0, V5_0, V6_0, V7_0, V8_0, V9_0, V10_0⟩ := B
  refine own_aloadN X0 hx (hb hby d5_0) rfl rfl 1 rfl ?_
  refine own_callV X0 hx hZ hown (own_w hw 57 rfl) (own_w hw 58 rfl) (own_w hw 60 rfl) (notFace_of_selects (args := #[]) (mvT hZ (own_w hw 60 rfl))) (own_w hw 59 rfl) (own_w hw 9 rfl) (own_w hw 61 rfl) (by decide) e0 E0 (rm41 l Z a0 hw [] a a1_ a2_ a3_ a4_ a5_ a6_ a7_ a8_ a9_ a10_ a11_ va vb vp h0 n0 Z0 ga hord ⟨E0, F0_0, F1_0, F2_0, F3_0, F4_0, F5_0, F6_0, F7_0, F8_0, F9_0, F10_0, F11_0, F12_0, F13_0, V0_0, V1_0, V2_0, V3_0, V4_0, V5_0, V6_0, V7_0, V8_0, V9_0, V10_0⟩ hc) (by rw [hml]; rfl) pd_1 (argsL := []) rfl (rest := []) rfl (hb hby d5_1) 0 (Nat.le_of_eq rfl) (by decide) (by decide) (by decide) (by decide) 4 rfl (fun T1713 L1713 v1713 X1713 hQ1713 => ?_)
  obtain ⟨rfl, N1713, Z1713, B1713⟩ := hQ1713
  have N1714 := Fr.app N0 N1713
  obtain ⟨E1713, F0_1713, F1_1713, F2_1713, F3_1713, F4_1713, F5_1713, F6_1713, F7_1713, F8_1713, F9_1713, F10_1713, F11_1713, F12_1713, F13_1713, V0_1713, V1_1713, V2_1713, V3_1713, V4_1713, V5_1713, V6_1713, V7_1713, V8_1713, V9_1713, V10_1713⟩ := B1713
  show own_Go p e below G (T1713.setTop (mkF m 4 #[.val (.ref a), .val (.int (1 : Int32)), .unset] [(.int (1 : Int32))]))
  refine own_istoreN X1713 hx (hb hby d5_4) #[.val (.ref a), .val (.int (1 : Int32)), .val (.int (1 : Int32))] rfl 5 rfl ?_
  refine own_aloadN X1713 hx (hb hby d5_5) rfl rfl 6 rfl ?_
  refine own_getF X1713 hx hZ hown (own_w hw 21 rfl) Via.refl (rfl : T1713.heap = T1713.heap) F5_1713 (hb hby d5_6) 9 rfl (fun T1715 X1715 e1715 => ?_)
  refine own_iloadN X1715 hx (hb hby d5_9) rfl 10 rfl ?_
  refine own_iloadN X1715 hx (hb hby d5_10) rfl 11 rfl ?_
  refine own_iastore X1715 hx hZ e1715 V2_1713 1 rfl (by simp) (hb hby d5_11) 12 rfl (fun T1716 h1716 X1716 e1716 W1716 V1716 => ?_)
  rw [show [(0 : Int32), (0 : Int32)].set 1 (1 : Int32) = [(0 : Int32), (1 : Int32)] from rfl] at V1716
  have N1717 := Fr.snoc X1716 N1714 (by omega)
  have Z1718 : n0 ≤ h1716.size := by rw [W1716.size]; exact Z1713
  have E1719 := E1713.wr W1716
  have F1720 := F0_1713.other W1716 (Or.inl (Nat.ne_of_lt (by omega)))
  have F1721 := F1_1713.other W1716 (Or.inl (Nat.ne_of_lt (by omega)))
  have F1722 := F2_1713.other W1716 (Or.inl (Nat.ne_of_lt (by omega)))
  have F1723 := F3_1713.other W1716 (Or.inl (Nat.ne_of_lt (by omega)))
  have F1724 := F4_1713.other W1716 (Or.inl (Nat.ne_of_lt (by omega)))
  have F1725 := F5_1713.other W1716 (Or.inl (Nat.ne_of_lt (by omega)))
  have F1726 := F6_1713.other W1716 (Or.inl (Nat.ne_of_lt (by omega)))
  have F1727 := F7_1713.other W1716 (Or.inl (Nat.ne_of_lt (by omega)))
  have F1728 := F8_1713.other W1716 (Or.inl (Nat.ne_of_lt (by omega)))
  have F1729 := F9_1713.other W1716 (Or.inl (Nat.ne_of_lt (by omega)))
  have F1730 := F10_1713.other W1716 (Or.inl (Nat.ne_of_lt (by omega)))
  have F1731 := F11_1713.other W1716 (Or.inl (Nat.ne_of_lt (by omega)))
  have F1732 := F12_1713.other W1716 (Or.inl (Nat.ne_of_lt (by omega)))
  have F1733 := F13_1713.other W1716 (Or.inl (Nat.ne_of_lt (by omega)))
  have V1734 := V0_1713.other W1716 (Nat.ne_of_lt (by omega))
  have V1735 := V1_1713.other W1716 (Nat.ne_of_lt (by omega))
  have V1736 := V3_1713.other W1716 (Ne.symm (Nat.ne_of_lt (by omega)))
  have V1737 := V4_1713.other W1716 (Ne.symm (Nat.ne_of_lt (by omega)))
  have V1738 := V5_1713.other W1716 (Ne.symm (Nat.ne_of_lt (by omega)))
  have V1739 := V6_1713.other W1716 (Ne.symm (Nat.ne_of_lt (by omega)))
  have V1740 := V7_1713.other W1716 (Ne.symm (Nat.ne_of_lt (by omega)))
  have V1741 := V8_1713.other W1716 (Ne.symm (Nat.ne_of_lt (by omega)))
  have V1742 := V9_1713.other W1716 (Ne.symm (Nat.ne_of_lt (by omega)))
  have V1743 := V10_1713.other W1716 (Ne.symm (Nat.ne_of_lt (by omega)))
  refine own_iloadN X1716 hx (hb hby d5_12) rfl 13 rfl ?_
  refine own_ireturn X1716 hx Bd.notSynchronized hG Bd.returns (hb hby d5_13) (by decide) (by decide) ?_
  rw [e1716]
  exact ⟨rfl, N1717, Z1718, ⟨E1719, F1720, F1721, F1722, F1723, F1724, F1725, F1726, F1727, F1728, F1729, F1730, F1731, F1732, F1733, V1734, V1735, V1716, V1736, V1737, V1738, V1739, V1740, V1741, V1742, V1743⟩⟩
def Q44 (Z : State) (a a1_ a2_ a3_ a4_ a5_ a6_ a7_ a8_ a9_ a10_ a11_ : Addr) (va vb vp : Int64) (h0 : Heap) (n0 : Nat) (v : Option Value) (h : Heap) (L : List Loc) : Prop := v = some (.int (0 : Int32)) ∧ Fr n0 L ∧ h = h0
theorem ef_rm44 (m : MethodId) (x0 : Addr) (x1 : Int32) : entryFrame m #[(.ref x0), (.int x1)] 2 = mkF m 0 #[.val (.ref x0), .val (.int x1)] [] := by first | (simp [entryFrame, mkF, argsToLocals, Value.category, maxLocals]; done) | rfl
set_option maxRecDepth 65536 in
set_option maxHeartbeats 40000000 in
theorem rm44 (l : Launch) (Z : State) (a0 : Array Value) (hw : ∀ d ∈ tables_1, d.before a0 Z = true) (ws : List Jvm.Cond) (a a1_ a2_ a3_ a4_ a5_ a6_ a7_ a8_ a9_ a10_ a11_ : Addr) (va vb vp : Int64) (h0 : Heap) (n0 : Nat) (Z0 : n0 ≤ h0.size) (ga : n0 ≤ a) (hord : own_Or a a1_ a2_ a3_ a4_ a5_ a6_ a7_ a8_ a9_ a10_ a11_) (B : own_PE Z h0 a a1_ a2_ a3_ a4_ a5_ a6_ a7_ a8_ a9_ a10_ a11_ (0 : Int32) (0 : Int32) (2 : Int32) (List.replicate 127 (0 : Int32)) (List.replicate 127 (0 : Int32)) [(0 : Int32), (1 : Int32)] [(1 : Int32), (0 : Int32)] [(-1 : Int32), (-1 : Int32)] [(-1 : Int32), (-1 : Int32)] [(1 : Int32), (0 : Int32)] [va, vb] [vp, vp] [(((0 : Int64) + vp) + (0 : Int64)), (0 : Int64)]) (hc : va = vb) :
    MetFree l own_y9 (head1 (Jvm.Cond.code own_y9 prog_49_method_28_code 2 (some .int) :: ws) ({ frames := 0, cells := 0, slots := 0, locals := 0 } : Room)) (fun aR U => aR = #[(.ref a), (.int (-1 : Int32))] ∧ Z.Warmed39 U.vm ∧ U.heap = h0) (fun _ _ _ _ _ => True) (fun _ U o U' => ∃ v L, o = .returned v ∧ Q44 Z a a1_ a2_ a3_ a4_ a5_ a6_ a7_ a8_ a9_ a10_ a11_ va vb vp h0 n0 v U'.heap L ∧ FrameEnd U o U' L ({ frames := 0, cells := 0, slots := 0, locals := 0 } : Room).cells ({ frames := 0, cells := 0, slots := 0, locals := 0 } : Room).slots) := by
  refine MetFree.of_bodySF pf_9 hisR ?_
  intro p e s m args below meth c s₁ Bd hml0 hP hK
  obtain ⟨rfl, hZ, hhE⟩ := hP
  have hx := Bd.exec
  have hby := Bd.bytes
  have hml : c.maxLocals = 2 := hml0
  have hown : s.vm.findClass "com/example/equitide/equitide/policy/backfilling/AvlTree" = some m.cls := findClass_of_methodNamed Bd.named
  have hnm := (name_of_methodNamed Bd.named Bd.method).1
  have X0 : Stand p l e ({ frames := 0, cells := 0, slots := 0, locals := 0 } : Room) s m #[(.ref a), (.int (-1 : Int32))] below meth c s₁ [] 0 0 := Stand.of_body Bd
  have e0 : s₁.heap = h0 := by rw [← hhE, Bd.state]; rfl
  have N0 := Fr.nil n0
  show own_Go p e below (own_Post s (Q44 Z a a1_ a2_ a3_ a4_ a5_ a6_ a7_ a8_ a9_ a10_ a11_ va vb vp h0 n0) ({ frames := 0, cells := 0, slots := 0, locals := 0 } : Room).cells ({ frames := 0, cells := 0, slots := 0, locals := 0 } : Room).slots) (s₁.setTop (entryFrame m #[(.ref a), (.int (-1 : Int32))] 2))
  rw [ef_rm44]
  generalize hG : own_Post s (Q44 Z a a1_ a2_ a3_ a4_ a5_ a6_ a7_ a8_ a9_ a10_ a11_ va vb vp h0 n0) ({ frames := 0, cells := 0, slots := 0, locals := 0 } : Room).cells ({ frames := 0, cells := 0, slots := 0, locals := 0 } : Room).slots = G
  obtain ⟨o1, o2, o3, o4, o5, o6, o7, o8, o9, o10, o11⟩ := id hord
  obtain ⟨E0, F0_0, F1_0, F2_0, F3_0, F4_0, F5_0, F6_0, F7_0, F8_0, F9_0, F10_0, F11_0, F12_0, F13_0, V0_0, V1_0, V2_0, V3_0, V4_0, V5_0, V6_0, V7_0, V8_0, V9_0, V10_0⟩ := B
  refine own_iloadN X0 hx (hb hby d9_0) rfl 1 rfl ?_
  refine own_iconst X0 hx (hb hby d9_1) (-1 : Int32) rfl 2 rfl ?_
  refine own_icmpN X0 hx (hb hby d9_2) (teq (by decide)).2 5 rfl ?_
  refine own_iconst X0 hx (hb hby d9_5) (0 : Int32) rfl 6 rfl ?_
  refine own_goto X0 hx (hb hby d9_6) 15 ⟨by decide, by decide⟩ ?_
  refine own_ireturn X0 hx Bd.notSynchronized hG Bd.returns (hb hby d9_15) (by decide) (by decide) ?_
  rw [e0]
  exact ⟨rfl, N0, rfl⟩
def Q46 (Z : State) (a a1_ a2_ a3_ a4_ a5_ a6_ a7_ a8_ a9_ a10_ a11_ : Addr) (va vb vp : Int64) (h0 : Heap) (n0 : Nat) (v : Option Value) (h : Heap) (L : List Loc) : Prop := v = some (.int (-1 : Int32)) ∧ Fr n0 L ∧ h = h0
theorem ef_rm46 (m : MethodId) (x0 : Addr) (x1 : Int32) : entryFrame m #[(.ref x0), (.int x1)] 2 = mkF m 0 #[.val (.ref x0), .val (.int x1)] [] := by first | (simp [entryFrame, mkF, argsToLocals, Value.category, maxLocals]; done) | rfl
set_option maxRecDepth 65536 in
set_option maxHeartbeats 40000000 in
theorem rm46 (l : Launch) (Z : State) (a0 : Array Value) (hw : ∀ d ∈ tables_1, d.before a0 Z = true) (ws : List Jvm.Cond) (a a1_ a2_ a3_ a4_ a5_ a6_ a7_ a8_ a9_ a10_ a11_ : Addr) (va vb vp : Int64) (h0 : Heap) (n0 : Nat) (Z0 : n0 ≤ h0.size) (ga : n0 ≤ a) (hord : own_Or a a1_ a2_ a3_ a4_ a5_ a6_ a7_ a8_ a9_ a10_ a11_) (B : own_PE Z h0 a a1_ a2_ a3_ a4_ a5_ a6_ a7_ a8_ a9_ a10_ a11_ (0 : Int32) (0 : Int32) (2 : Int32) (List.replicate 127 (0 : Int32)) (List.replicate 127 (0 : Int32)) [(0 : Int32), (1 : Int32)] [(1 : Int32), (0 : Int32)] [(-1 : Int32), (-1 : Int32)] [(-1 : Int32), (-1 : Int32)] [(1 : Int32), (1 : Int32)] [va, vb] [vp, vp] [(((0 : Int64) + vp) + (0 : Int64)), (0 : Int64)]) (hc : va = vb) :
    MetFree l own_y12 (head1 (Jvm.Cond.code own_y12 prog_49_method_7_code 2 (some .int) :: ws) ({ frames := 0, cells := 0, slots := 0, locals := 0 } : Room)) (fun aR U => aR = #[(.ref a), (.int (1 : Int32))] ∧ Z.Warmed39 U.vm ∧ U.heap = h0) (fun _ _ _ _ _ => True) (fun _ U o U' => ∃ v L, o = .returned v ∧ Q46 Z a a1_ a2_ a3_ a4_ a5_ a6_ a7_ a8_ a9_ a10_ a11_ va vb vp h0 n0 v U'.heap L ∧ FrameEnd U o U' L ({ frames := 0, cells := 0, slots := 0, locals := 0 } : Room).cells ({ frames := 0, cells := 0, slots := 0, locals := 0 } : Room).slots) := by
  refine MetFree.of_bodySF pf_12 hisR ?_
  intro p e s m args below meth c s₁ Bd hml0 hP hK
  obtain ⟨rfl, hZ, hhE⟩ := hP
  have hx := Bd.exec
  have hby := Bd.bytes
  have hml : c.maxLocals = 2 := hml0
  have hown : s.vm.findClass "com/example/equitide/equitide/policy/backfilling/AvlTree" = some m.cls := findClass_of_methodNamed Bd.named
  have hnm := (name_of_methodNamed Bd.named Bd.method).1
  have X0 : Stand p l e ({ frames := 0, cells := 0, slots := 0, locals := 0 } : Room) s m #[(.ref a), (.int (1 : Int32))] below meth c s₁ [] 0 0 := Stand.of_body Bd
  have e0 : s₁.heap = h0 := by rw [← hhE, Bd.state]; rfl
  have N0 := Fr.nil n0
  show own_Go p e below (own_Post s (Q46 Z a a1_ a2_ a3_ a4_ a5_ a6_ a7_ a8_ a9_ a10_ a11_ va vb vp h0 n0) ({ frames := 0, cells := 0, slots := 0, locals := 0 } : Room).cells ({ frames := 0, cells := 0, slots := 0, locals := 0 } : Room).slots) (s₁.setTop (entryFrame m #[(.ref a), (.int (1 : Int32))] 2))
  rw [ef_rm46]
  generalize hG : own_Post s (Q46 Z a a1_ a2_ a3_ a4_ a5_ a6_ a7_ a8_ a9_ a10_ a11_ va vb vp h0 n0) ({ frames := 0, cells := 0, slots := 0, locals := 0 } : Room).cells ({ frames := 0, cells := 0, slots := 0, locals := 0 } : Room).slots = G
  obtain ⟨o1, o2, o3, o4, o5, o6, o7, o8, o9, o10, o11⟩ := id hord
  obtain ⟨E0, F0_0, F1_0, F2_0, F3_0, F4_0, F5_0, F6_0, F7_0, F8_0, F9_0, F10_0, F11_0, F12_0, F13_0, V0_0, V1_0, V2_0, V3_0, V4_0, V5_0, V6_0, V7_0, V8_0, V9_0, V10_0⟩ := B
  refine own_aloadN X0 hx (hb hby d12_0) rfl rfl 1 rfl ?_
  refine own_getF X0 hx hZ hown (own_w hw 27 rfl) Via.refl e0 F7_0 (hb hby d12_1) 4 rfl (fun T1872 X1872 e1872 => ?_)
  refine own_iloadN X1872 hx (hb hby d12_4) rfl 5 rfl ?_
  refine own_iaload X1872 hx hZ e1872 V4_0 1 rfl (-1 : Int32) rfl (hb hby d12_5) 6 rfl ?_
  refine own_ireturn X1872 hx Bd.notSynchronized hG Bd.returns (hb hby d12_6) (by decide) (by decide) ?_
  rw [e1872]
  exact ⟨rfl, N0, rfl⟩
def Q47 (Z : State) (a a1_ a2_ a3_ a4_ a5_ a6_ a7_ a8_ a9_ a10_ a11_ : Addr) (va vb vp : Int64) (h0 : Heap) (n0 : Nat) (v : Option Value) (h : Heap) (L : List Loc) : Prop := v = some (.long (0 : Int64)) ∧ Fr n0 L ∧ h = h0
theorem ef_rm47 (m : MethodId) (x0 : Addr) (x1 : Int32) : entryFrame m #[(.ref x0), (.int x1)] 2 = mkF m 0 #[.val (.ref x0), .val (.int x1)] [] := by first | (simp [entryFrame, mkF, argsToLocals, Value.category, maxLocals]; done) | rfl
set_option maxRecDepth 65536 in
set_option maxHeartbeats 40000000 in
theorem rm47 (l : Launch) (Z : State) (a0 : Array Value) (hw : ∀ d ∈ tables_1, d.before a0 Z = true) (ws : List Jvm.Cond) (a a1_ a2_ a3_ a4_ a5_ a6_ a7_ a8_ a9_ a10_ a11_ : Addr) (va vb vp : Int64) (h0 : Heap) (n0 : Nat) (Z0 : n0 ≤ h0.size) (ga : n0 ≤ a) (hord : own_Or a a1_ a2_ a3_ a4_ a5_ a6_ a7_ a8_ a9_ a10_ a11_) (B : own_PE Z h0 a a1_ a2_ a3_ a4_ a5_ a6_ a7_ a8_ a9_ a10_ a11_ (0 : Int32) (0 : Int32) (2 : Int32) (List.replicate 127 (0 : Int32)) (List.replicate 127 (0 : Int32)) [(0 : Int32), (1 : Int32)] [(1 : Int32), (0 : Int32)] [(-1 : Int32), (-1 : Int32)] [(-1 : Int32), (-1 : Int32)] [(1 : Int32), (1 : Int32)] [va, vb] [vp, vp] [(((0 : Int64) + vp) + (0 : Int64)), (0 : Int64)]) (hc : va = vb) :
    MetFree l own_y13 (head1 (Jvm.Cond.code own_y13 prog_66_method_10_code 2 (some .long) :: ws) ({ frames := 0, cells := 0, slots := 0, locals := 0 } : Room)) (fun aR U => aR = #[(.ref a), (.int (-1 : Int32))] ∧ Z.Warmed39 U.vm ∧ U.heap = h0) (fun _ _ _ _ _ => True) (fun _ U o U' => ∃ v L, o = .returned v ∧ Q47 Z a a1_ a2_ a3_ a4_ a5_ a6_ a7_ a8_ a9_ a10_ a11_ va vb vp h0 n0 v U'.heap L ∧ FrameEnd U o U' L ({ frames := 0, cells := 0, slots := 0, locals := 0 } : Room).cells ({ frames := 0, cells := 0, slots := 0, locals := 0 } : Room).slots) := by
  refine MetFree.of_bodySF pf_13 hisR ?_
  intro p e s m args below meth c s₁ Bd hml0 hP hK
  obtain ⟨rfl, hZ, hhE⟩ := hP
  have hx := Bd.exec
  have hby := Bd.bytes
  have hml : c.maxLocals = 2 := hml0
  have hown : s.vm.findClass "com/example/equitide/equitide/policy/backfilling/PlannedEnds" = some m.cls := findClass_of_methodNamed Bd.named
  have hnm := (name_of_methodNamed Bd.named Bd.method).1
  have X0 : Stand p l e ({ frames := 0, cells := 0, slots := 0, locals := 0 } : Room) s m #[(.ref a), (.int (-1 : Int32))] below meth c s₁ [] 0 0 := Stand.of_body Bd
  have e0 : s₁.heap = h0 := by rw [← hhE, Bd.state]; rfl
  have N0 := Fr.nil n0
  show own_Go p e below (own_Post s (Q47 Z a a1_ a2_ a3_ a4_ a5_ a6_ a7_ a8_ a9_ a10_ a11_ va vb vp h0 n0) ({ frames := 0, cells := 0, slots := 0, locals := 0 } : Room).cells ({ frames := 0, cells := 0, slots := 0, locals := 0 } : Room).slots) (s₁.setTop (entryFrame m #[(.ref a), (.int (-1 : Int32))] 2))
  rw [ef_rm47]
  generalize hG : own_Post s (Q47 Z a a1_ a2_ a3_ a4_ a5_ a6_ a7_ a8_ a9_ a10_ a11_ va vb vp h0 n0) ({ frames := 0, cells := 0, slots := 0, locals := 0 } : Room).cells ({ frames := 0, cells := 0, slots := 0, locals := 0 } : Room).slots = G
  obtain ⟨o1, o2, o3, o4, o5, o6, o7, o8, o9, o10, o11⟩ := id hord
  obtain ⟨E0, F0_0, F1_0, F2_0, F3_0, F4_0, F5_0, F6_0, F7_0, F8_0, F9_0, F10_0, F11_0, F12_0, F13_0, V0_0, V1_0, V2_0, V3_0, V4_0, V5_0, V6_0, V7_0, V8_0, V9_0, V10_0⟩ := B
  refine own_iloadN X0 hx (hb hby d13_0) rfl 1 rfl ?_
  refine own_iconst X0 hx (hb hby d13_1) (-1 : Int32) rfl 2 rfl ?_
  refine own_icmpN X0 hx (hb hby d13_2) (teq (by decide)).2 5 rfl ?_
  refine own_lconst X0 hx (hb hby d13_5) (0 : Int64) rfl 6 rfl ?_
  refine own_goto X0 hx (hb hby d13_6) 15 ⟨by decide, by decide⟩ ?_
  refine own_lreturn X0 hx Bd.notSynchronized hG Bd.returns (hb hby d13_15) (by decide) (by decide) ?_
  rw [e0]
  exact ⟨rfl, N0, rfl⟩
def Q48 (Z : State) (a a1_ a2_ a3_ a4_ a5_ a6_ a7_ a8_ a9_ a10_ a11_ : Addr) (va vb vp : Int64) (h0 : Heap) (n0 : Nat) (v : Option Value) (h : Heap) (L : List Loc) : Prop := v = some (.int (-1 : Int32)) ∧ Fr n0 L ∧ h = h0
theorem ef_rm48 (m : MethodId) (x0 : Addr) (x1 : Int32) : entryFrame m #[(.ref x0), (.int x1)] 2 = mkF m 0 #[.val (.ref x0), .val (.int x1)] [] := by first | (simp [entryFrame, mkF, argsToLocals, Value.category, maxLocals]; done) | rfl
set_option maxRecDepth 65536 in
set_option maxHeartbeats 40000000 in
theorem rm48 (l : Launch) (Z : State) (a0 : Array Value) (hw : ∀ d ∈ tables_1, d.before a0 Z = true) (ws : List Jvm.Cond) (a a1_ a2_ a3_ a4_ a5_ a6_ a7_ a8_ a9_ a10_ a11_ : Addr) (va vb vp : Int64) (h0 : Heap) (n0 : Nat) (Z0 : n0 ≤ h0.size) (ga : n0 ≤ a) (hord : own_Or a a1_ a2_ a3_ a4_ a5_ a6_ a7_ a8_ a9_ a10_ a11_) (B : own_PE Z h0 a a1_ a2_ a3_ a4_ a5_ a6_ a7_ a8_ a9_ a10_ a11_ (0 : Int32) (0 : Int32) (2 : Int32) (List.replicate 127 (0 : Int32)) (List.replicate 127 (0 : Int32)) [(0 : Int32), (1 : Int32)] [(1 : Int32), (0 : Int32)] [(-1 : Int32), (-1 : Int32)] [(-1 : Int32), (-1 : Int32)] [(1 : Int32), (1 : Int32)] [va, vb] [vp, vp] [(((0 : Int64) + vp) + (0 : Int64)), (0 : Int64)]) (hc : va = vb) :
    MetFree l own_y14 (head1 (Jvm.Cond.code own_y14 prog_49_method_8_code 2 (some .int) :: ws) ({ frames := 0, cells := 0, slots := 0, locals := 0 } : Room)) (fun aR U => aR = #[(.ref a), (.int (1 : Int32))] ∧ Z.Warmed39 U.vm ∧ U.heap = h0) (fun _ _ _ _ _ => True) (fun _ U o U' => ∃ v L, o = .returned v ∧ Q48 Z a a1_ a2_ a3_ a4_ a5_ a6_ a7_ a8_ a9_ a10_ a11_ va vb vp h0 n0 v U'.heap L ∧ FrameEnd U o U' L ({ frames := 0, cells := 0, slots := 0, locals := 0 } : Room).cells ({ frames := 0, cells := 0, slots := 0, locals := 0 } : Room).slots) := by
  refine MetFree.of_bodySF pf_14 hisR ?_
  intro p e s m args below meth c s₁ Bd hml0 hP hK
  obtain ⟨rfl, hZ, hhE⟩ := hP
  have hx := Bd.exec
  have hby := Bd.bytes
  have hml : c.maxLocals = 2 := hml0
  have hown : s.vm.findClass "com/example/equitide/equitide/policy/backfilling/AvlTree" = some m.cls := findClass_of_methodNamed Bd.named
  have hnm := (name_of_methodNamed Bd.named Bd.method).1
  have X0 : Stand p l e ({ frames := 0, cells := 0, slots := 0, locals := 0 } : Room) s m #[(.ref a), (.int (1 : Int32))] below meth c s₁ [] 0 0 := Stand.of_body Bd
  have e0 : s₁.heap = h0 := by rw [← hhE, Bd.state]; rfl
  have N0 := Fr.nil n0
  show own_Go p e below (own_Post s (Q48 Z a a1_ a2_ a3_ a4_ a5_ a6_ a7_ a8_ a9_ a10_ a11_ va vb vp h0 n0) ({ frames := 0, cells := 0, slots := 0, locals := 0 } : Room).cells ({ frames := 0, cells := 0, slots := 0, locals := 0 } : Room).slots) (s₁.setTop (entryFrame m #[(.ref a), (.int (1 : Int32))] 2))
  rw [ef_rm48]
  generalize hG : own_Post s (Q48 Z a a1_ a2_ a3_ a4_ a5_ a6_ a7_ a8_ a9_ a10_ a11_ va vb vp h0 n0) ({ frames := 0, cells := 0, slots := 0, locals := 0 } : Room).cells ({ frames := 0, cells := 0, slots := 0, locals := 0 } : Room).slots = G
  obtain ⟨o1, o2, o3, o4, o5, o6, o7, o8, o9, o10, o11⟩ := id hord
  obtain ⟨E0, F0_0, F1_0, F2_0, F3_0, F4_0, F5_0, F6_0, F7_0, F8_0, F9_0, F10_0, F11_0, F12_0, F13_0, V0_0, V1_0, V2_0, V3_0, V4_0, V5_0, V6_0, V7_0, V8_0, V9_0, V10_0⟩ := B
  refine own_aloadN X0 hx (hb hby d14_0) rfl rfl 1 rfl ?_
  refine own_getF X0 hx hZ hown (own_w hw 29 rfl) Via.refl e0 F8_0 (hb hby d14_1) 4 rfl (fun T1878 X1878 e1878 => ?_)
  refine own_iloadN X1878 hx (hb hby d14_4) rfl 5 rfl ?_
  refine own_iaload X1878 hx hZ e1878 V5_0 1 rfl (-1 : Int32) rfl (hb hby d14_5) 6 rfl ?_
  refine own_ireturn X1878 hx Bd.notSynchronized hG Bd.returns (hb hby d14_6) (by decide) (by decide) ?_
  rw [e1878]
  exact ⟨rfl, N0, rfl⟩
def Q45 (Z : State) (a a1_ a2_ a3_ a4_ a5_ a6_ a7_ a8_ a9_ a10_ a11_ : Addr) (va vb vp : Int64) (h0 : Heap) (n0 : Nat) (v : Option Value) (h : Heap) (L : List Loc) : Prop := v = none ∧ Fr n0 L ∧ n0 ≤ h.size ∧ own_PE Z h a a1_ a2_ a3_ a4_ a5_ a6_ a7_ a8_ a9_ a10_ a11_ (0 : Int32) (0 : Int32) (2 : Int32) (List.replicate 127 (0 : Int32)) (List.replicate 127 (0 : Int32)) [(0 : Int32), (1 : Int32)] [(1 : Int32), (0 : Int32)] [(-1 : Int32), (-1 : Int32)] [(-1 : Int32), (-1 : Int32)] [(1 : Int32), (1 : Int32)] [va, vb] [vp, vp] [(((0 : Int64) + vp) + (0 : Int64)), (((0 : Int64) + vp) + (0 : Int64))]
theorem ef_rm45 (m : MethodId) (x0 : Addr) (x1 : Int32) : entryFrame m #[(.ref x0), (.int x1)] 2 = mkF m 0 #[.val (.ref x0), .val (.int x1)] [] := by first | (simp [entryFrame, mkF, argsToLocals, Value.category, maxLocals]; done) | rfl
set_option maxRecDepth 65536 in
set_option maxHeartbeats 40000000 in
theorem rm45 (l : Launch) (Z : State) (a0 : Array Value) (hw : ∀ d ∈ tables_1, d.before a0 Z = true) (ws : List Jvm.Cond) (a a1_ a2_ a3_ a4_ a5_ a6_ a7_ a8_ a9_ a10_ a11_ : Addr) (va vb vp : Int64) (h0 : Heap) (n0 : Nat) (Z0 : n0 ≤ h0.size) (ga : n0 ≤ a) (hord : own_Or a a1_ a2_ a3_ a4_ a5_ a6_ a7_ a8_ a9_ a10_ a11_) (B : own_PE Z h0 a a1_ a2_ a3_ a4_ a5_ a6_ a7_ a8_ a9_ a10_ a11_ (0 : Int32) (0 : Int32) (2 : Int32) (List.replicate 127 (0 : Int32)) (List.replicate 127 (0 : Int32)) [(0 : Int32), (1 : Int32)] [(1 : Int32), (0 : Int32)] [(-1 : Int32), (-1 : Int32)] [(-1 : Int32), (-1 : Int32)] [(1 : Int32), (1 : Int32)] [va, vb] [vp, vp] [(((0 : Int64) + vp) + (0 : Int64)), (0 : Int64)]) (hc : va = vb) :
    MetFree l own_y11 (head1 (Jvm.Cond.code own_y11 prog_66_method_8_code 2 none :: ws) ({ frames := 1, cells := 0, slots := 0, locals := 18 } : Room)) (fun aR U => aR = #[(.ref a), (.int (1 : Int32))] ∧ Z.Warmed39 U.vm ∧ U.heap = h0) (fun _ _ _ _ _ => True) (fun _ U o U' => ∃ v L, o = .returned v ∧ Q45 Z a a1_ a2_ a3_ a4_ a5_ a6_ a7_ a8_ a9_ a10_ a11_ va vb vp h0 n0 v U'.heap L ∧ FrameEnd U o U' L ({ frames := 1, cells := 0, slots := 0, locals := 18 } : Room).cells ({ frames := 1, cells := 0, slots := 0, locals := 18 } : Room).slots) := by
  refine MetFree.of_bodySF pf_11 hisR ?_
  intro p e s m args below meth c s₁ Bd hml0 hP hK
  obtain ⟨rfl, hZ, hhE⟩ := hP
  have hx := Bd.exec
  have hby := Bd.bytes
  have hml : c.maxLocals = 2 := hml0
  have hown : s.vm.findClass "com/example/equitide/equitide/policy/backfilling/PlannedEnds" = some m.cls := findClass_of_methodNamed Bd.named
  have hnm := (name_of_methodNamed Bd.named Bd.method).1
  have X0 : Stand p l e ({ frames := 1, cells := 0, slots := 0, locals := 18 } : Room) s m #[(.ref a), (.int (1 : Int32))] below meth c s₁ [] 0 0 := Stand.of_body Bd
  have e0 : s₁.heap = h0 := by rw [← hhE, Bd.state]; rfl
  have N0 := Fr.nil n0
  show own_Go p e below (own_Post s (Q45 Z a a1_ a2_ a3_ a4_ a5_ a6_ a7_ a8_ a9_ a10_ a11_ va vb vp h0 n0) ({ frames := 1, cells := 0, slots := 0, locals := 18 } : Room).cells ({ frames := 1, cells := 0, slots := 0, locals := 18 } : Room).slots) (s₁.setTop (entryFrame m #[(.ref a), (.int (1 : Int32))] 2))
  rw [ef_rm45]
  generalize hG : own_Post s (Q45 Z a a1_ a2_ a3_ a4_ a5_ a6_ a7_ a8_ a9_ a10_ a11_ va vb vp h0 n0) ({ frames := 1, cells := 0, slots := 0, locals := 18 } : Room).cells ({ frames := 1, cells := 0, slots := 0, locals := 18 } : Room).slots = G
  obtain ⟨o1, o2, o3, o4, o5, o6, o7, o8, o9, o10, o11⟩ := id hord
  obtain ⟨E0, F0_0, F1_0, F2_0, F3_0, F4_0, F5_0, F6_0, F7_0, F8_0, F9_0, F10_0, F11_0, F12_0, F13_0, V0_0, V1_0, V2_0, V3_0, V4_0, V5_0, V6_0, V7_0, V8_0, V9_0, V10_0⟩ := B
  refine own_aloadN X0 hx (hb hby d11_0) rfl rfl 1 rfl ?_
  refine own_getF X0 hx hZ hown (own_w hw 44 rfl) Via.refl e0 F13_0 (hb hby d11_1) 4 rfl (fun T1871 X1871 e1871 => ?_)
  refine own_iloadN X1871 hx (hb hby d11_4) rfl 5 rfl ?_
  refine own_aloadN X1871 hx (hb hby d11_5) rfl rfl 6 rfl ?_
  refine own_aloadN X1871 hx (hb hby d11_6) rfl rfl 7 rfl ?_
  refine own_iloadN X1871 hx (hb hby d11_7) rfl 8 rfl ?_
  refine own_callU X1871 hx hZ hown (own_w hw 87 rfl) (own_w hw 88 rfl) (own_w hw 89 rfl) (own_w hw 91 rfl) (own_w hw 90 rfl) (own_w hw 9 rfl) (own_w hw 92 rfl) (by decide) e1871 E0 (rm46 l Z a0 hw [] a a1_ a2_ a3_ a4_ a5_ a6_ a7_ a8_ a9_ a10_ a11_ va vb vp h0 n0 Z0 ga hord ⟨E0, F0_0, F1_0, F2_0, F3_0, F4_0, F5_0, F6_0, F7_0, F8_0, F9_0, F10_0, F11_0, F12_0, F13_0, V0_0, V1_0, V2_0, V3_0, V4_0, V5_0, V6_0, V7_0, V8_0, V9_0, V10_0⟩ hc) (by rw [hml]; rfl) pd_2 (argsL := [(.int (1 : Int32))]) rfl (rest := [(.ref a), (.int (1 : Int32)), (.ref a11_)]) rfl (hb hby d11_8) 3 (Nat.le_of_eq rfl) (by decide) (by decide) (by decide) (by decide) 11 rfl (fun T1873 L1873 v1873 X1873 hQ1873 => ?_)
  obtain ⟨rfl, N1873, e1873⟩ := hQ1873
  have N1874 := Fr.app N0 N1873
  show own_Go p e below G (T1873.setTop (mkF m 11 #[.val (.ref a), .val (.int (1 : Int32))] [(.int (-1 : Int32)), (.ref a), (.int (1 : Int32)), (.ref a11_)]))
  refine own_callP X1873 hx hZ hown (own_w hw 93 rfl) (own_w hw 94 rfl) (own_w hw 95 rfl) (own_niI hZ (own_w hw 1 rfl)) (own_w hw 2 rfl) (own_w hw 96 rfl) (by decide) e1873 E0 (rm47 l Z a0 hw [] a a1_ a2_ a3_ a4_ a5_ a6_ a7_ a8_ a9_ a10_ a11_ va vb vp h0 n0 Z0 ga hord ⟨E0, F0_0, F1_0, F2_0, F3_0, F4_0, F5_0, F6_0, F7_0, F8_0, F9_0, F10_0, F11_0, F12_0, F13_0, V0_0, V1_0, V2_0, V3_0, V4_0, V5_0, V6_0, V7_0, V8_0, V9_0, V10_0⟩ hc) (by rw [hml]; rfl) pd_4 (argsL := [(.int (-1 : Int32))]) rfl (rest := [(.int (1 : Int32)), (.ref a11_)]) rfl (hb hby d11_11) 2 (Nat.le_of_eq rfl) (by decide) (by decide) (by decide) (by decide) 14 rfl (fun T1875 L1875 v1875 X1875 hQ1875 => ?_)
  obtain ⟨rfl, N1875, e1875⟩ := hQ1875
  have N1876 := Fr.app N1874 N1875
  show own_Go p e below G (T1875.setTop (mkF m 14 #[.val (.ref a), .val (.int (1 : Int32))] [(.long (0 : Int64)), (.int (1 : Int32)), (.ref a11_)]))
  refine own_aloadN X1875 hx (hb hby d11_14) rfl rfl 15 rfl ?_
  refine own_getF X1875 hx hZ hown (own_w hw 42 rfl) Via.refl e1875 F12_0 (hb hby d11_15) 18 rfl (fun T1877 X1877 e1877 => ?_)
  refine own_iloadN X1877 hx (hb hby d11_18) rfl 19 rfl ?_
  refine own_laload X1877 hx hZ e1877 V9_0 1 rfl vp rfl (hb hby d11_19) 20 rfl ?_
  refine own_ladd X1877 hx (hb hby d11_20) 21 rfl ?_
  refine own_aloadN X1877 hx (hb hby d11_21) rfl rfl 22 rfl ?_
  refine own_aloadN X1877 hx (hb hby d11_22) rfl rfl 23 rfl ?_
  refine own_iloadN X1877 hx (hb hby d11_23) rfl 24 rfl ?_
  refine own_callU X1877 hx hZ hown (own_w hw 97 rfl) (own_w hw 98 rfl) (own_w hw 99 rfl) (own_w hw 101 rfl) (own_w hw 100 rfl) (own_w hw 9 rfl) (own_w hw 102 rfl) (by decide) e1877 E0 (rm48 l Z a0 hw [] a a1_ a2_ a3_ a4_ a5_ a6_ a7_ a8_ a9_ a10_ a11_ va vb vp h0 n0 Z0 ga hord ⟨E0, F0_0, F1_0, F2_0, F3_0, F4_0, F5_0, F6_0, F7_0, F8_0, F9_0, F10_0, F11_0, F12_0, F13_0, V0_0, V1_0, V2_0, V3_0, V4_0, V5_0, V6_0, V7_0, V8_0, V9_0, V10_0⟩ hc) (by rw [hml]; rfl) pd_2 (argsL := [(.int (1 : Int32))]) rfl (rest := [(.ref a), (.long ((0 : Int64) + vp)), (.int (1 : Int32)), (.ref a11_)]) rfl (hb hby d11_24) 5 (Nat.le_of_eq rfl) (by decide) (by decide) (by decide) (by decide) 27 rfl (fun T1879 L1879 v1879 X1879 hQ1879 => ?_)
  obtain ⟨rfl, N1879, e1879⟩ := hQ1879
  have N1880 := Fr.app N1876 N1879
  show own_Go p e below G (T1879.setTop (mkF m 27 #[.val (.ref a), .val (.int (1 : Int32))] [(.int (-1 : Int32)), (.ref a), (.long ((0 : Int64) + vp)), (.int (1 : Int32)), (.ref a11_)]))
  refine own_callP X1879 hx hZ hown (own_w hw 93 rfl) (own_w hw 94 rfl) (own_w hw 95 rfl) (own_niI hZ (own_w hw 1 rfl)) (own_w hw 2 rfl) (own_w hw 96 rfl) (by decide) e1879 E0 (rm47 l Z a0 hw [] a a1_ a2_ a3_ a4_ a5_ a6_ a7_ a8_ a9_ a10_ a11_ va vb vp h0 n0 Z0 ga hord ⟨E0, F0_0, F1_0, F2_0, F3_0, F4_0, F5_0, F6_0, F7_0, F8_0, F9_0, F10_0, F11_0, F12_0, F13_0, V0_0, V1_0, V2_0, V3_0, V4_0, V5_0, V6_0, V7_0, V8_0, V9_0, V10_0⟩ hc) (by rw [hml]; rfl) pd_4 (argsL := [(.int (-1 : Int32))]) rfl (rest := [(.long ((0 : Int64) + vp)), (.int (1 : Int32)), (.ref a11_)]) rfl (hb hby d11_27) 4 (Nat.le_of_eq rfl) (by decide) (by decide) (by decide) (by decide) 30 rfl (fun T1881 L1881 v1881 X1881 hQ1881 => ?_)
  obtain ⟨rfl, N1881, e1881⟩ := hQ1881
  have N1882 := Fr.app N1880 N1881
  show own_Go p e below G (T1881.setTop (mkF m 30 #[.val (.ref a), .val (.int (1 : Int32))] [(.long (0 : Int64)), (.long ((0 : Int64) + vp)), (.int (1 : Int32)), (.ref a11_)]))
  refine own_ladd X1881 hx (hb hby d11_30) 31 rfl ?_
  refine own_lastore X1881 hx hZ e1881 V10_0 1 rfl (by simp) (hb hby d11_31) 32 rfl (fun T1883 h1883 X1883 e1883 W1883 V1883 => ?_)
  rw [show [(((0 : Int64) + vp) + (0 : Int64)), (0 : Int64)].set 1 (((0 : Int64) + vp) + (0 : Int64)) = [(((0 : Int64) + vp) + (0 : Int64)), (((0 : Int64) + vp) + (0 : Int64))] from rfl] at V1883
  have N1884 := Fr.snoc X1883 N1882 (by omega)
  have Z1885 : n0 ≤ h1883.size := by rw [W1883.size]; exact Z0
  have E1886 := E0.wr W1883
  have F1887 := F0_0.other W1883 (Or.inl (Nat.ne_of_lt (by omega)))
  have F1888 := F1_0.other W1883 (Or.inl (Nat.ne_of_lt (by omega)))
  have F1889 := F2_0.other W1883 (Or.inl (Nat.ne_of_lt (by omega)))
  have F1890 := F3_0.other W1883 (Or.inl (Nat.ne_of_lt (by omega)))
  have F1891 := F4_0.other W1883 (Or.inl (Nat.ne_of_lt (by omega)))
  have F1892 := F5_0.other W1883 (Or.inl (Nat.ne_of_lt (by omega)))
  have F1893 := F6_0.other W1883 (Or.inl (Nat.ne_of_lt (by omega)))
  have F1894 := F7_0.other W1883 (Or.inl (Nat.ne_of_lt (by omega)))
  have F1895 := F8_0.other W1883 (Or.inl (Nat.ne_of_lt (by omega)))
  have F1896 := F9_0.other W1883 (Or.inl (Nat.ne_of_lt (by omega)))
  have F1897 := F10_0.other W1883 (Or.inl (Nat.ne_of_lt (by omega)))
  have F1898 := F11_0.other W1883 (Or.inl (Nat.ne_of_lt (by omega)))
  have F1899 := F12_0.other W1883 (Or.inl (Nat.ne_of_lt (by omega)))
  have F1900 := F13_0.other W1883 (Or.inl (Nat.ne_of_lt (by omega)))
  have V1901 := V0_0.other W1883 (Nat.ne_of_lt (by omega))
  have V1902 := V1_0.other W1883 (Nat.ne_of_lt (by omega))
  have V1903 := V2_0.other W1883 (Nat.ne_of_lt (by omega))
  have V1904 := V3_0.other W1883 (Nat.ne_of_lt (by omega))
  have V1905 := V4_0.other W1883 (Nat.ne_of_lt (by omega))
  have V1906 := V5_0.other W1883 (Nat.ne_of_lt (by omega))
  have V1907 := V6_0.other W1883 (Nat.ne_of_lt (by omega))
  have V1908 := V7_0.other W1883 (Nat.ne_of_lt (by omega))
  have V1909 := V8_0.other W1883 (Nat.ne_of_lt (by omega))
  have V1910 := V9_0.other W1883 (Nat.ne_of_lt (by omega))
  refine own_return X1883 hx Bd.notSynchronized hG Bd.returns (hb hby d11_32) (by decide) (by decide) ?_
  rw [e1883]
  exact ⟨rfl, N1884, Z1885, ⟨E1886, F1887, F1888, F1889, F1890, F1891, F1892, F1893, F1894, F1895, F1896, F1897, F1898, F1899, F1900, V1901, V1902, V1903, V1904, V1905, V1906, V1907, V1908, V1909, V1910, V1883⟩⟩
def Q43 (Z : State) (a a1_ a2_ a3_ a4_ a5_ a6_ a7_ a8_ a9_ a10_ a11_ : Addr) (va vb vp : Int64) (h0 : Heap) (n0 : Nat) (v : Option Value) (h : Heap) (L : List Loc) : Prop := v = none ∧ Fr n0 L ∧ n0 ≤ h.size ∧ own_PE Z h a a1_ a2_ a3_ a4_ a5_ a6_ a7_ a8_ a9_ a10_ a11_ (0 : Int32) (0 : Int32) (2 : Int32) (List.replicate 127 (0 : Int32)) (List.replicate 127 (0 : Int32)) [(0 : Int32), (1 : Int32)] [(1 : Int32), (0 : Int32)] [(-1 : Int32), (-1 : Int32)] [(-1 : Int32), (-1 : Int32)] [(1 : Int32), (1 : Int32)] [va, vb] [vp, vp] [(((0 : Int64) + vp) + (0 : Int64)), (((0 : Int64) + vp) + (0 : Int64))]
theorem ef_rm43 (m : MethodId) (x0 : Addr) (x1 : Int32) : entryFrame m #[(.ref x0), (.int x1)] 2 = mkF m 0 #[.val (.ref x0), .val (.int x1)] [] := by first | (simp [entryFrame, mkF, argsToLocals, Value.category, maxLocals]; done) | rfl
set_option maxRecDepth 65536 in
set_option maxHeartbeats 40000000 in
theorem rm43 (l : Launch) (Z : State) (a0 : Array Value) (hw : ∀ d ∈ tables_1, d.before a0 Z = true) (ws : List Jvm.Cond) (a a1_ a2_ a3_ a4_ a5_ a6_ a7_ a8_ a9_ a10_ a11_ : Addr) (va vb vp : Int64) (h0 : Heap) (n0 : Nat) (Z0 : n0 ≤ h0.size) (ga : n0 ≤ a) (hord : own_Or a a1_ a2_ a3_ a4_ a5_ a6_ a7_ a8_ a9_ a10_ a11_) (B : own_PE Z h0 a a1_ a2_ a3_ a4_ a5_ a6_ a7_ a8_ a9_ a10_ a11_ (0 : Int32) (0 : Int32) (2 : Int32) (List.replicate 127 (0 : Int32)) (List.replicate 127 (0 : Int32)) [(0 : Int32), (1 : Int32)] [(1 : Int32), (0 : Int32)] [(-1 : Int32), (-1 : Int32)] [(-1 : Int32), (-1 : Int32)] [(1 : Int32), (0 : Int32)] [va, vb] [vp, vp] [(((0 : Int64) + vp) + (0 : Int64)), (0 : Int64)]) (hc : va = vb) :
    MetFree l own_y8 (head1 (Jvm.Cond.code own_y8 prog_49_method_27_code 2 none :: ws) ({ frames := 2, cells := 0, slots := 0, locals := 31 } : Room)) (fun aR U => aR = #[(.ref a), (.int (1 : Int32))] ∧ Z.Warmed39 U.vm ∧ U.heap = h0) (fun _ _ _ _ _ => True) (fun _ U o U' => ∃ v L, o = .returned v ∧ Q43 Z a a1_ a2_ a3_ a4_ a5_ a6_ a7_ a8_ a9_ a10_ a11_ va vb vp h0 n0 v U'.heap L ∧ FrameEnd U o U' L ({ frames := 2, cells := 0, slots := 0, locals := 31 } : Room).cells ({ frames := 2, cells := 0, slots := 0, locals := 31 } : Room).slots) := by
  refine MetFree.of_bodySF pf_8 hisR ?_
  intro p e s m args below meth c s₁ Bd hml0 hP hK
  obtain ⟨rfl, hZ, hhE⟩ := hP
  have hx := Bd.exec
  have hby := Bd.bytes
  have hml : c.maxLocals = 2 := hml0
  have hown : s.vm.findClass "com/example/equitide/equitide/policy/backfilling/AvlTree" = some m.cls := findClass_of_methodNamed Bd.named
  have hnm := (name_of_methodNamed Bd.named Bd.method).1
  have X0 : Stand p l e ({ frames := 2, cells := 0, slots := 0, locals := 31 } : Room) s m #[(.ref a), (.int (1 : Int32))] below meth c s₁ [] 0 0 := Stand.of_body Bd
  have e0 : s₁.heap = h0 := by rw [← hhE, Bd.state]; rfl
  have N0 := Fr.nil n0
  show own_Go p e below (own_Post s (Q43 Z a a1_ a2_ a3_ a4_ a5_ a6_ a7_ a8_ a9_ a10_ a11_ va vb vp h0 n0) ({ frames := 2, cells := 0, slots := 0, locals := 31 } : Room).cells ({ frames := 2, cells := 0, slots := 0, locals := 31 } : Room).slots) (s₁.setTop (entryFrame m #[(.ref a), (.int (1 : Int32))] 2))
  rw [ef_rm43]
  generalize hG : own_Post s (Q43 Z a a1_ a2_ a3_ a4_ a5_ a6_ a7_ a8_ a9_ a10_ a11_ va vb vp h0 n0) ({ frames := 2, cells := 0, slots := 0, locals := 31 } : Room).cells ({ frames := 2, cells := 0, slots := 0, locals := 31 } : Room).slots = G
  obtain ⟨o1, o2, o3, o4, o5, o6, o7, o8, o9, o10, o11⟩ := id hord
  obtain ⟨E0, F0_0, F1_0, F2_0, F3_0, F4_0, F5_0, F6_0, F7_0, F8_0, F9_0, F10_0, F11_0, F12_0, F13_0, V0_0, V1_0, V2_0, V3_0, V4_0, V5_0, V6_0, V7_0, V8_0, V9_0, V10_0⟩ := B
  refine own_aloadN X0 hx (hb hby d8_0) rfl rfl 1 rfl ?_
  refine own_getF X0 hx hZ hown (own_w hw 37 rfl) Via.refl e0 F10_0 (hb hby d8_1) 4 rfl (fun T1834 X1834 e1834 => ?_)
  refine own_iloadN X1834 hx (hb hby d8_4) rfl 5 rfl ?_
  refine own_iconst X1834 hx (hb hby d8_5) (1 : Int32) rfl 6 rfl ?_
  refine own_aloadN X1834 hx (hb hby d8_6) rfl rfl 7 rfl ?_
  refine own_aloadN X1834 hx (hb hby d8_7) rfl rfl 8 rfl ?_
  refine own_getF X1834 hx hZ hown (own_w hw 27 rfl) Via.refl e1834 F7_0 (hb hby d8_8) 11 rfl (fun T1835 X1835 e1835 => ?_)
  refine own_iloadN X1835 hx (hb hby d8_11) rfl 12 rfl ?_
  refine own_iaload X1835 hx hZ e1835 V4_0 1 rfl (-1 : Int32) rfl (hb hby d8_12) 13 rfl ?_
  refine own_callP X1835 hx hZ hown (own_w hw 74 rfl) (own_w hw 75 rfl) (own_w hw 76 rfl) (own_niS hZ (own_w hw 60 rfl) (own_w hw 59 rfl) rfl) (own_w hw 9 rfl) (own_w hw 77 rfl) (by decide) e1835 E0 (rm44 l Z a0 hw [] a a1_ a2_ a3_ a4_ a5_ a6_ a7_ a8_ a9_ a10_ a11_ va vb vp h0 n0 Z0 ga hord ⟨E0, F0_0, F1_0, F2_0, F3_0, F4_0, F5_0, F6_0, F7_0, F8_0, F9_0, F10_0, F11_0, F12_0, F13_0, V0_0, V1_0, V2_0, V3_0, V4_0, V5_0, V6_0, V7_0, V8_0, V9_0, V10_0⟩ hc) (by rw [hml]; rfl) pd_2 (argsL := [(.int (-1 : Int32))]) rfl (rest := [(.int (1 : Int32)), (.int (1 : Int32)), (.ref a8_)]) rfl (hb hby d8_13) 3 (Nat.le_of_eq rfl) (by decide) (by decide) (by decide) (by decide) 16 rfl (fun T1836 L1836 v1836 X1836 hQ1836 => ?_)
  obtain ⟨rfl, N1836, e1836⟩ := hQ1836
  have N1837 := Fr.app N0 N1836
  show own_Go p e below G (T1836.setTop (mkF m 16 #[.val (.ref a), .val (.int (1 : Int32))] [(.int (0 : Int32)), (.int (1 : Int32)), (.int (1 : Int32)), (.ref a8_)]))
  refine own_aloadN X1836 hx (hb hby d8_16) rfl rfl 17 rfl ?_
  refine own_aloadN X1836 hx (hb hby d8_17) rfl rfl 18 rfl ?_
  refine own_getF X1836 hx hZ hown (own_w hw 29 rfl) Via.refl e1836 F8_0 (hb hby d8_18) 21 rfl (fun T1838 X1838 e1838 => ?_)
  refine own_iloadN X1838 hx (hb hby d8_21) rfl 22 rfl ?_
  refine own_iaload X1838 hx hZ e1838 V5_0 1 rfl (-1 : Int32) rfl (hb hby d8_22) 23 rfl ?_
  refine own_callP X1838 hx hZ hown (own_w hw 74 rfl) (own_w hw 75 rfl) (own_w hw 76 rfl) (own_niS hZ (own_w hw 60 rfl) (own_w hw 59 rfl) rfl) (own_w hw 9 rfl) (own_w hw 77 rfl) (by decide) e1838 E0 (rm44 l Z a0 hw [] a a1_ a2_ a3_ a4_ a5_ a6_ a7_ a8_ a9_ a10_ a11_ va vb vp h0 n0 Z0 ga hord ⟨E0, F0_0, F1_0, F2_0, F3_0, F4_0, F5_0, F6_0, F7_0, F8_0, F9_0, F10_0, F11_0, F12_0, F13_0, V0_0, V1_0, V2_0, V3_0, V4_0, V5_0, V6_0, V7_0, V8_0, V9_0, V10_0⟩ hc) (by rw [hml]; rfl) pd_2 (argsL := [(.int (-1 : Int32))]) rfl (rest := [(.int (0 : Int32)), (.int (1 : Int32)), (.int (1 : Int32)), (.ref a8_)]) rfl (hb hby d8_23) 4 (Nat.le_of_eq rfl) (by decide) (by decide) (by decide) (by decide) 26 rfl (fun T1839 L1839 v1839 X1839 hQ1839 => ?_)
  obtain ⟨rfl, N1839, e1839⟩ := hQ1839
  have N1840 := Fr.app N1837 N1839
  show own_Go p e below G (T1839.setTop (mkF m 26 #[.val (.ref a), .val (.int (1 : Int32))] [(.int (0 : Int32)), (.int (0 : Int32)), (.int (1 : Int32)), (.int (1 : Int32)), (.ref a8_)]))
  refine own_callS X1839 hx hZ hown (own_w hw 78 rfl) (own_w hw 79 rfl) (own_w hw 80 rfl) (own_w hw 81 rfl) (by decide) e1839 (rmMax l Z a0 hw [] (0 : Int32) (0 : Int32) h0 n0) (by rw [hml]; rfl) pd_3 (argsL := [(.int (0 : Int32)), (.int (0 : Int32))]) rfl (rest := [(.int (1 : Int32)), (.int (1 : Int32)), (.ref a8_)]) rfl (hb hby d8_26) 3 (Nat.le_of_eq rfl) (by decide) (by decide) (by decide) (by decide) 29 rfl (fun T1841 L1841 v1841 X1841 hQ1841 => ?_)
  obtain ⟨rfl, N1841, e1841⟩ := hQ1841
  have N1842 := Fr.app N1840 N1841
  show own_Go p e below G (T1841.setTop (mkF m 29 #[.val (.ref a), .val (.int (1 : Int32))] [(.int (own_max (0 : Int32) (0 : Int32))), (.int (1 : Int32)), (.int (1 : Int32)), (.ref a8_)]))
  rw [show own_max (0 : Int32) (0 : Int32) = (0 : Int32) from rfl]
  refine own_iadd X1841 hx (hb hby d8_29) 30 rfl ?_
  show own_Go p e below G (T1841.setTop (mkF m 30 #[.val (.ref a), .val (.int (1 : Int32))] [(.int (1 : Int32)), (.int (1 : Int32)), (.ref a8_)]))
  refine own_i2b X1841 hx (hb hby d8_30) 31 rfl ?_
  show own_Go p e below G (T1841.setTop (mkF m 31 #[.val (.ref a), .val (.int (1 : Int32))] [(.int (1 : Int32)), (.int (1 : Int32)), (.ref a8_)]))
  refine own_bastore X1841 hx hZ e1841 V7_0 1 rfl (by simp) (hb hby d8_31) 32 rfl (fun T1843 h1843 X1843 e1843 W1843 V1843 => ?_)
  rw [show [(1 : Int32), (0 : Int32)].set 1 ((1 : Int32).toInt8.toInt32) = [(1 : Int32), (1 : Int32)] from rfl] at V1843
  have N1844 := Fr.snoc X1843 N1842 (by omega)
  have Z1845 : n0 ≤ h1843.size := by rw [W1843.size]; exact Z0
  have E1846 := E0.wr W1843
  have F1847 := F0_0.other W1843 (Or.inl (Nat.ne_of_lt (by omega)))
  have F1848 := F1_0.other W1843 (Or.inl (Nat.ne_of_lt (by omega)))
  have F1849 := F2_0.other W1843 (Or.inl (Nat.ne_of_lt (by omega)))
  have F1850 := F3_0.other W1843 (Or.inl (Nat.ne_of_lt (by omega)))
  have F1851 := F4_0.other W1843 (Or.inl (Nat.ne_of_lt (by omega)))
  have F1852 := F5_0.other W1843 (Or.inl (Nat.ne_of_lt (by omega)))
  have F1853 := F6_0.other W1843 (Or.inl (Nat.ne_of_lt (by omega)))
  have F1854 := F7_0.other W1843 (Or.inl (Nat.ne_of_lt (by omega)))
  have F1855 := F8_0.other W1843 (Or.inl (Nat.ne_of_lt (by omega)))
  have F1856 := F9_0.other W1843 (Or.inl (Nat.ne_of_lt (by omega)))
  have F1857 := F10_0.other W1843 (Or.inl (Nat.ne_of_lt (by omega)))
  have F1858 := F11_0.other W1843 (Or.inl (Nat.ne_of_lt (by omega)))
  have F1859 := F12_0.other W1843 (Or.inl (Nat.ne_of_lt (by omega)))
  have F1860 := F13_0.other W1843 (Or.inl (Nat.ne_of_lt (by omega)))
  have V1861 := V0_0.other W1843 (Nat.ne_of_lt (by omega))
  have V1862 := V1_0.other W1843 (Nat.ne_of_lt (by omega))
  have V1863 := V2_0.other W1843 (Nat.ne_of_lt (by omega))
  have V1864 := V3_0.other W1843 (Nat.ne_of_lt (by omega))
  have V1865 := V4_0.other W1843 (Nat.ne_of_lt (by omega))
  have V1866 := V5_0.other W1843 (Nat.ne_of_lt (by omega))
  have V1867 := V6_0.other W1843 (Nat.ne_of_lt (by omega))
  have V1868 := V8_0.other W1843 (Ne.symm (Nat.ne_of_lt (by omega)))
  have V1869 := V9_0.other W1843 (Ne.symm (Nat.ne_of_lt (by omega)))
  have V1870 := V10_0.other W1843 (Ne.symm (Nat.ne_of_lt (by omega)))
  refine own_aloadN X1843 hx (hb hby d8_32) rfl rfl 33 rfl ?_
  refine own_iloadN X1843 hx (hb hby d8_33) rfl 34 rfl ?_
  refine own_callV X1843 hx hZ hown (own_w hw 82 rfl) (own_w hw 83 rfl) (own_w hw 84 rfl) (own_nfS (own_niS hZ (own_w hw 60 rfl) (own_w hw 59 rfl) rfl)) (own_w hw 85 rfl) (own_w hw 2 rfl) (own_w hw 86 rfl) (by decide) e1843 E1846 (rm45 l Z a0 hw [] a a1_ a2_ a3_ a4_ a5_ a6_ a7_ a8_ a9_ a10_ a11_ va vb vp h1843 n0 Z1845 ga hord ⟨E1846, F1847, F1848, F1849, F1850, F1851, F1852, F1853, F1854, F1855, F1856, F1857, F1858, F1859, F1860, V1861, V1862, V1863, V1864, V1865, V1866, V1867, V1843, V1868, V1869, V1870⟩ hc) (by rw [hml]; rfl) pd_5 (argsL := [(.int (1 : Int32))]) rfl (rest := []) rfl (hb hby d8_34) 0 (Nat.le_of_eq rfl) (by decide) (by decide) (by decide) (by decide) 37 rfl (fun T1911 L1911 v1911 X1911 hQ1911 => ?_)
  obtain ⟨rfl, N1911, Z1911, B1911⟩ := hQ1911
  have N1912 := Fr.app N1844 N1911
  obtain ⟨E1911, F0_1911, F1_1911, F2_1911, F3_1911, F4_1911, F5_1911, F6_1911, F7_1911, F8_1911, F9_1911, F10_1911, F11_1911, F12_1911, F13_1911, V0_1911, V1_1911, V2_1911, V3_1911, V4_1911, V5_1911, V6_1911, V7_1911, V8_1911, V9_1911, V10_1911⟩ := B1911
  show own_Go p e below G (T1911.setTop (mkF m 37 #[.val (.ref a), .val (.int (1 : Int32))] []))
  refine own_return X1911 hx Bd.notSynchronized hG Bd.returns (hb hby d8_37) (by decide) (by decide) ?_
  skip
  exact ⟨rfl, N1912, Z1911, ⟨E1911, F0_1911, F1_1911, F2_1911, F3_1911, F4_1911, F5_1911, F6_1911, F7_1911, F8_1911, F9_1911, F10_1911, F11_1911, F12_1911, F13_1911, V0_1911, V1_1911, V2_1911, V3_1911, V4_1911, V5_1911, V6_1911, V7_1911, V8_1911, V9_1911, V10_1911⟩⟩
def Q50 (Z : State) (a a1_ a2_ a3_ a4_ a5_ a6_ a7_ a8_ a9_ a10_ a11_ : Addr) (va vb vp : Int64) (h0 : Heap) (n0 : Nat) (v : Option Value) (h : Heap) (L : List Loc) : Prop := v = some (.int (0 : Int32)) ∧ Fr n0 L ∧ h = h0
theorem ef_rm50 (m : MethodId) (x0 : Addr) (x1 : Int32) (x2 : Int32) : entryFrame m #[(.ref x0), (.int x1), (.int x2)] 3 = mkF m 0 #[.val (.ref x0), .val (.int x1), .val (.int x2)] [] := by first | (simp [entryFrame, mkF, argsToLocals, Value.category, maxLocals]; done) | rfl
set_option maxRecDepth 65536 in
set_option maxHeartbeats 40000000 in
theorem rm50 (l : Launch) (Z : State) (a0 : Array Value) (hw : ∀ d ∈ tables_1, d.before a0 Z = true) (ws : List Jvm.Cond) (a a1_ a2_ a3_ a4_ a5_ a6_ a7_ a8_ a9_ a10_ a11_ : Addr) (va vb vp : Int64) (h0 : Heap) (n0 : Nat) (Z0 : n0 ≤ h0.size) (ga : n0 ≤ a) (hord : own_Or a a1_ a2_ a3_ a4_ a5_ a6_ a7_ a8_ a9_ a10_ a11_) (B : own_PE Z h0 a a1_ a2_ a3_ a4_ a5_ a6_ a7_ a8_ a9_ a10_ a11_ (0 : Int32) (0 : Int32) (2 : Int32) ((List.replicate 127 (0 : Int32)).set 0 (0 : Int32)) (List.replicate 127 (0 : Int32)) [(0 : Int32), (1 : Int32)] [(1 : Int32), (0 : Int32)] [(-1 : Int32), (-1 : Int32)] [(-1 : Int32), (-1 : Int32)] [(1 : Int32), (1 : Int32)] [va, vb] [vp, vp] [(((0 : Int64) + vp) + (0 : Int64)), (((0 : Int64) + vp) + (0 : Int64))]) (hc : va = vb) :
    MetFree l own_y17 (head1 (Jvm.Cond.code own_y17 prog_66_method_9_code 3 (some .boolean) :: ws) ({ frames := 0, cells := 0, slots := 0, locals := 0 } : Room)) (fun aR U => aR = #[(.ref a), (.int (1 : Int32)), (.int (0 : Int32))] ∧ Z.Warmed39 U.vm ∧ U.heap = h0) (fun _ _ _ _ _ => True) (fun _ U o U' => ∃ v L, o = .returned v ∧ Q50 Z a a1_ a2_ a3_ a4_ a5_ a6_ a7_ a8_ a9_ a10_ a11_ va vb vp h0 n0 v U'.heap L ∧ FrameEnd U o U' L ({ frames := 0, cells := 0, slots := 0, locals := 0 } : Room).cells ({ frames := 0, cells := 0, slots := 0, locals := 0 } : Room).slots) := by
  refine MetFree.of_bodySF pf_17 hisR ?_
  intro p e s m args below meth c s₁ Bd hml0 hP hK
  obtain ⟨rfl, hZ, hhE⟩ := hP
  have hx := Bd.exec
  have hby := Bd.bytes
  have hml : c.maxLocals = 3 := hml0
  have hown : s.vm.findClass "com/example/equitide/equitide/policy/backfilling/PlannedEnds" = some m.cls := findClass_of_methodNamed Bd.named
  have hnm := (name_of_methodNamed Bd.named Bd.method).1
  have X0 : Stand p l e ({ frames := 0, cells := 0, slots := 0, locals := 0 } : Room) s m #[(.ref a), (.int (1 : Int32)), (.int (0 : Int32))] below meth c s₁ [] 0 0 := Stand.of_body Bd
  have e0 : s₁.heap = h0 := by rw [← hhE, Bd.state]; rfl
  have N0 := Fr.nil n0
  show own_Go p e below (own_Post s (Q50 Z a a1_ a2_ a3_ a4_ a5_ a6_ a7_ a8_ a9_ a10_ a11_ va vb vp h0 n0) ({ frames := 0, cells := 0, slots := 0, locals := 0 } : Room).cells ({ frames := 0, cells := 0, slots := 0, locals := 0 } : Room).slots) (s₁.setTop (entryFrame m #[(.ref a), (.int (1 : Int32)), (.int (0 : Int32))] 3))
  rw [ef_rm50]
  generalize hG : own_Post s (Q50 Z a a1_ a2_ a3_ a4_ a5_ a6_ a7_ a8_ a9_ a10_ a11_ va vb vp h0 n0) ({ frames := 0, cells := 0, slots := 0, locals := 0 } : Room).cells ({ frames := 0, cells := 0, slots := 0, locals := 0 } : Room).slots = G
  obtain ⟨o1, o2, o3, o4, o5, o6, o7, o8, o9, o10, o11⟩ := id hord
  obtain ⟨E0, F0_0, F1_0, F2_0, F3_0, F4_0, F5_0, F6_0, F7_0, F8_0, F9_0, F10_0, F11_0, F12_0, F13_0, V0_0, V1_0, V2_0, V3_0, V4_0, V5_0, V6_0, V7_0, V8_0, V9_0, V10_0⟩ := B
  refine own_aloadN X0 hx (hb hby d17_0) rfl rfl 1 rfl ?_
  refine own_getF X0 hx hZ hown (own_w hw 40 rfl) Via.refl e0 F11_0 (hb hby d17_1) 4 rfl (fun T1946 X1946 e1946 => ?_)
  refine own_iloadN X1946 hx (hb hby d17_4) rfl 5 rfl ?_
  refine own_laload X1946 hx hZ e1946 V8_0 1 rfl vb rfl (hb hby d17_5) 6 rfl ?_
  refine own_aloadN X1946 hx (hb hby d17_6) rfl rfl 7 rfl ?_
  refine own_getF X1946 hx hZ hown (own_w hw 40 rfl) Via.refl e1946 F11_0 (hb hby d17_7) 10 rfl (fun T1947 X1947 e1947 => ?_)
  refine own_iloadN X1947 hx (hb hby d17_10) rfl 11 rfl ?_
  refine own_laload X1947 hx hZ e1947 V8_0 0 rfl va rfl (hb hby d17_11) 12 rfl ?_
  refine own_lcmp X1947 hx (hb hby d17_12) 13 rfl ?_
  refine own_ifY X1947 hx (hb hby d17_13) (own_eqL hc.symm).1 40 ⟨by decide, by decide⟩ ?_
  refine own_iloadN X1947 hx (hb hby d17_40) rfl 41 rfl ?_
  refine own_iloadN X1947 hx (hb hby d17_41) rfl 42 rfl ?_
  refine own_icmpY X1947 hx (hb hby d17_42) (flt (by decide)).2.1 49 ⟨by decide, by decide⟩ ?_
  refine own_iconst X1947 hx (hb hby d17_49) (0 : Int32) rfl 50 rfl ?_
  refine own_nreturn X1947 hx Bd.notSynchronized hG Bd.returns (by simp) (hb hby d17_50) (by decide) (by decide) ?_
  rw [e1947]
  exact ⟨rfl, N0, rfl⟩
def Q49 (Z : State) (a a1_ a2_ a3_ a4_ a5_ a6_ a7_ a8_ a9_ a10_ a11_ : Addr) (va vb vp : Int64) (h0 : Heap) (n0 : Nat) (v : Option Value) (h : Heap) (L : List Loc) : Prop := v = some (.int (1 : Int32)) ∧ Fr n0 L ∧ n0 ≤ h.size ∧ own_PE Z h a a1_ a2_ a3_ a4_ a5_ a6_ a7_ a8_ a9_ a10_ a11_ (0 : Int32) (0 : Int32) (2 : Int32) ((List.replicate 127 (0 : Int32)).set 0 (0 : Int32)) ((List.replicate 127 (0 : Int32)).set 0 (1 : Int32)) [(0 : Int32), (1 : Int32)] [(1 : Int32), (0 : Int32)] [(-1 : Int32), (-1 : Int32)] [(-1 : Int32), (-1 : Int32)] [(1 : Int32), (1 : Int32)] [va, vb] [vp, vp] [(((0 : Int64) + vp) + (0 : Int64)), (((0 : Int64) + vp) + (0 : Int64))]
theorem ef_rm49 (m : MethodId) (x0 : Addr) (x1 : Int32) (x2 : Int32) : entryFrame m #[(.ref x0), (.int x1), (.int x2)] 5 = mkF m 0 #[.val (.ref x0), .val (.int x1), .val (.int x2), .unset, .unset] [] := by first | (simp [entryFrame, mkF, argsToLocals, Value.category, maxLocals]; done) | rfl
set_option maxRecDepth 65536 in
set_option maxHeartbeats 40000000 in
theorem rm49 (l : Launch) (Z : State) (a0 : Array Value) (hw : ∀ d ∈ tables_1, d.before a0 Z = true) (ws : List Jvm.Cond) (a a1_ a2_ a3_ a4_ a5_ a6_ a7_ a8_ a9_ a10_ a11_ : Addr) (va vb vp : Int64) (h0 : Heap) (n0 : Nat) (Z0 : n0 ≤ h0.size) (ga : n0 ≤ a) (hord : own_Or a a1_ a2_ a3_ a4_ a5_ a6_ a7_ a8_ a9_ a10_ a11_) (B : own_PE Z h0 a a1_ a2_ a3_ a4_ a5_ a6_ a7_ a8_ a9_ a10_ a11_ (0 : Int32) (0 : Int32) (2 : Int32) (List.replicate 127 (0 : Int32)) (List.replicate 127 (0 : Int32)) [(0 : Int32), (1 : Int32)] [(1 : Int32), (0 : Int32)] [(-1 : Int32), (-1 : Int32)] [(-1 : Int32), (-1 : Int32)] [(1 : Int32), (1 : Int32)] [va, vb] [vp, vp] [(((0 : Int64) + vp) + (0 : Int64)), (((0 : Int64) + vp) + (0 : Int64))]) (hc : va = vb) :
    MetFree l own_y15 (head1 (Jvm.Cond.code own_y15 prog_49_method_22_code 5 (some .int) :: ws) ({ frames := 1, cells := 0, slots := 0, locals := 16 } : Room)) (fun aR U => aR = #[(.ref a), (.int (1 : Int32)), (.int (-1 : Int32))] ∧ Z.Warmed39 U.vm ∧ U.heap = h0) (fun _ _ _ _ _ => True) (fun _ U o U' => ∃ v L, o = .returned v ∧ Q49 Z a a1_ a2_ a3_ a4_ a5_ a6_ a7_ a8_ a9_ a10_ a11_ va vb vp h0 n0 v U'.heap L ∧ FrameEnd U o U' L ({ frames := 1, cells := 0, slots := 0, locals := 16 } : Room).cells ({ frames := 1, cells := 0, slots := 0, locals := 16 } : Room).slots) := by
  refine MetFree.of_bodySF pf_15 hisR ?_
  intro p e s m args below meth c s₁ Bd hml0 hP hK
  obtain ⟨rfl, hZ, hhE⟩ := hP
  have hx := Bd.exec
  have hby := Bd.bytes
  have hml : c.maxLocals = 5 := hml0
  have hown : s.vm.findClass "com/example/equitide/equitide/policy/backfilling/AvlTree" = some m.cls := findClass_of_methodNamed Bd.named
  have hnm := (name_of_methodNamed Bd.named Bd.method).1
  have X0 : Stand p l e ({ frames := 1, cells := 0, slots := 0, locals := 16 } : Room) s m #[(.ref a), (.int (1 : Int32)), (.int (-1 : Int32))] below meth c s₁ [] 0 0 := Stand.of_body Bd
  have e0 : s₁.heap = h0 := by rw [← hhE, Bd.state]; rfl
  have N0 := Fr.nil n0
  show own_Go p e below (own_Post s (Q49 Z a a1_ a2_ a3_ a4_ a5_ a6_ a7_ a8_ a9_ a10_ a11_ va vb vp h0 n0) ({ frames := 1, cells := 0, slots := 0, locals := 16 } : Room).cells ({ frames := 1, cells := 0, slots := 0, locals := 16 } : Room).slots) (s₁.setTop (entryFrame m #[(.ref a), (.int (1 : Int32)), (.int (-1 : Int32))] 5))
  rw [ef_rm49]
  generalize hG : own_Post s (Q49 Z a a1_ a2_ a3_ a4_ a5_ a6_ a7_ a8_ a9_ a10_ a11_ va vb vp h0 n0) ({ frames := 1, cells := 0, slots := 0, locals := 16 } : Room).cells ({ frames := 1, cells := 0, slots := 0, locals := 16 } : Room).slots = G
  obtain ⟨o1, o2, o3, o4, o5, o6, o7, o8, o9, o10, o11⟩ := id hord
  obtain ⟨E0, F0_0, F1_0, F2_0, F3_0, F4_0, F5_0, F6_0, F7_0, F8_0, F9_0, F10_0, F11_0, F12_0, F13_0, V0_0, V1_0, V2_0, V3_0, V4_0, V5_0, V6_0, V7_0, V8_0, V9_0, V10_0⟩ := B
  refine own_iconst X0 hx (hb hby d15_0) (0 : Int32) rfl 1 rfl ?_
  refine own_istoreN X0 hx (hb hby d15_1) #[.val (.ref a), .val (.int (1 : Int32)), .val (.int (-1 : Int32)), .val (.int (0 : Int32)), .unset] rfl 2 rfl ?_
  refine own_aloadN X0 hx (hb hby d15_2) rfl rfl 3 rfl ?_
  refine own_getF X0 hx hZ hown (own_w hw 14 rfl) Via.refl e0 F0_0 (hb hby d15_3) 6 rfl (fun T1915 X1915 e1915 => ?_)
  refine own_istore X1915 hx (hb hby d15_6) #[.val (.ref a), .val (.int (1 : Int32)), .val (.int (-1 : Int32)), .val (.int (0 : Int32)), .val (.int (0 : Int32))] rfl 8 rfl ?_
  refine own_iload X1915 hx (hb hby d15_8) rfl 10 rfl ?_
  refine own_iloadN X1915 hx (hb hby d15_10) rfl 11 rfl ?_
  refine own_icmpN X1915 hx (hb hby d15_11) (feq (by decide)).1 14 rfl ?_
  refine own_aloadN X1915 hx (hb hby d15_14) rfl rfl 15 rfl ?_
  refine own_getF X1915 hx hZ hown (own_w hw 17 rfl) Via.refl e1915 F3_0 (hb hby d15_15) 18 rfl (fun T1916 X1916 e1916 => ?_)
  refine own_iloadN X1916 hx (hb hby d15_18) rfl 19 rfl ?_
  refine own_iload X1916 hx (hb hby d15_19) rfl 21 rfl ?_
  refine own_iastore X1916 hx hZ e1916 V0_0 0 rfl (by simp) (hb hby d15_21) 22 rfl (fun T1917 h1917 X1917 e1917 W1917 V1917 => ?_)
  have N1918 := Fr.snoc X1917 N0 (by omega)
  have Z1919 : n0 ≤ h1917.size := by rw [W1917.size]; exact Z0
  have E1920 := E0.wr W1917
  have F1921 := F0_0.other W1917 (Or.inl (Nat.ne_of_lt (by omega)))
  have F1922 := F1_0.other W1917 (Or.inl (Nat.ne_of_lt (by omega)))
  have F1923 := F2_0.other W1917 (Or.inl (Nat.ne_of_lt (by omega)))
  have F1924 := F3_0.other W1917 (Or.inl (Nat.ne_of_lt (by omega)))
  have F1925 := F4_0.other W1917 (Or.inl (Nat.ne_of_lt (by omega)))
  have F1926 := F5_0.other W1917 (Or.inl (Nat.ne_of_lt (by omega)))
  have F1927 := F6_0.other W1917 (Or.inl (Nat.ne_of_lt (by omega)))
  have F1928 := F7_0.other W1917 (Or.inl (Nat.ne_of_lt (by omega)))
  have F1929 := F8_0.other W1917 (Or.inl (Nat.ne_of_lt (by omega)))
  have F1930 := F9_0.other W1917 (Or.inl (Nat.ne_of_lt (by omega)))
  have F1931 := F10_0.other W1917 (Or.inl (Nat.ne_of_lt (by omega)))
  have F1932 := F11_0.other W1917 (Or.inl (Nat.ne_of_lt (by omega)))
  have F1933 := F12_0.other W1917 (Or.inl (Nat.ne_of_lt (by omega)))
  have F1934 := F13_0.other W1917 (Or.inl (Nat.ne_of_lt (by omega)))
  have V1935 := V1_0.other W1917 (Ne.symm (Nat.ne_of_lt (by omega)))
  have V1936 := V2_0.other W1917 (Ne.symm (Nat.ne_of_lt (by omega)))
  have V1937 := V3_0.other W1917 (Ne.symm (Nat.ne_of_lt (by omega)))
  have V1938 := V4_0.other W1917 (Ne.symm (Nat.ne_of_lt (by omega)))
  have V1939 := V5_0.other W1917 (Ne.symm (Nat.ne_of_lt (by omega)))
  have V1940 := V6_0.other W1917 (Ne.symm (Nat.ne_of_lt (by omega)))
  have V1941 := V7_0.other W1917 (Ne.symm (Nat.ne_of_lt (by omega)))
  have V1942 := V8_0.other W1917 (Ne.symm (Nat.ne_of_lt (by omega)))
  have V1943 := V9_0.other W1917 (Ne.symm (Nat.ne_of_lt (by omega)))
  have V1944 := V10_0.other W1917 (Ne.symm (Nat.ne_of_lt (by omega)))
  refine own_aloadN X1917 hx (hb hby d15_22) rfl rfl 23 rfl ?_
  refine own_getF X1917 hx hZ hown (own_w hw 19 rfl) Via.refl e1917 F1925 (hb hby d15_23) 26 rfl (fun T1945 X1945 e1945 => ?_)
  refine own_iloadN X1945 hx (hb hby d15_26) rfl 27 rfl ?_
  refine own_aloadN X1945 hx (hb hby d15_27) rfl rfl 28 rfl ?_
  refine own_iloadN X1945 hx (hb hby d15_28) rfl 29 rfl ?_
  refine own_iload X1945 hx (hb hby d15_29) rfl 31 rfl ?_
  refine own_callV X1945 hx hZ hown (own_w hw 111 rfl) (own_w hw 112 rfl) (own_w hw 113 rfl) (own_nfS (own_niS hZ (own_w hw 60 rfl) (own_w hw 59 rfl) rfl)) (own_w hw 114 rfl) (own_w hw 2 rfl) (own_w hw 115 rfl) (by decide) e1945 E1920 (rm50 l Z a0 hw [] a a1_ a2_ a3_ a4_ a5_ a6_ a7_ a8_ a9_ a10_ a11_ va vb vp h1917 n0 Z1919 ga hord ⟨E1920, F1921, F1922, F1923, F1924, F1925, F1926, F1927, F1928, F1929, F1930, F1931, F1932, F1933, F1934, V1917, V1935, V1936, V1937, V1938, V1939, V1940, V1941, V1942, V1943, V1944⟩ hc) (by rw [hml]; rfl) pd_8 (argsL := [(.int (1 : Int32)), (.int (0 : Int32))]) rfl (rest := [(.int (0 : Int32)), (.ref a2_)]) rfl (hb hby d15_31) 2 (Nat.le_of_eq rfl) (by decide) (by decide) (by decide) (by decide) 34 rfl (fun T1948 L1948 v1948 X1948 hQ1948 => ?_)
  obtain ⟨rfl, N1948, e1948⟩ := hQ1948
  have N1949 := Fr.app N1918 N1948
  show own_Go p e below G (T1948.setTop (mkF m 34 #[.val (.ref a), .val (.int (1 : Int32)), .val (.int (-1 : Int32)), .val (.int (0 : Int32)), .val (.int (0 : Int32))] [(.int (0 : Int32)), (.int (0 : Int32)), (.ref a2_)]))
  refine own_ifY X1948 hx (hb hby d15_34) ((if0 _ _).trans (teq (by decide)).1) 41 ⟨by decide, by decide⟩ ?_
  refine own_iconst X1948 hx (hb hby d15_41) (1 : Int32) rfl 42 rfl ?_
  refine own_iastore X1948 hx hZ e1948 V1935 0 rfl (by simp) (hb hby d15_42) 43 rfl (fun T1950 h1950 X1950 e1950 W1950 V1950 => ?_)
  have N1951 := Fr.snoc X1950 N1949 (by omega)
  have Z1952 : n0 ≤ h1950.size := by rw [W1950.size]; exact Z1919
  have E1953 := E1920.wr W1950
  have F1954 := F1921.other W1950 (Or.inl (Nat.ne_of_lt (by omega)))
  have F1955 := F1922.other W1950 (Or.inl (Nat.ne_of_lt (by omega)))
  have F1956 := F1923.other W1950 (Or.inl (Nat.ne_of_lt (by omega)))
  have F1957 := F1924.other W1950 (Or.inl (Nat.ne_of_lt (by omega)))
  have F1958 := F1925.other W1950 (Or.inl (Nat.ne_of_lt (by omega)))
  have F1959 := F1926.other W1950 (Or.inl (Nat.ne_of_lt (by omega)))
  have F1960 := F1927.other W1950 (Or.inl (Nat.ne_of_lt (by omega)))
  have F1961 := F1928.other W1950 (Or.inl (Nat.ne_of_lt (by omega)))
  have F1962 := F1929.other W1950 (Or.inl (Nat.ne_of_lt (by omega)))
  have F1963 := F1930.other W1950 (Or.inl (Nat.ne_of_lt (by omega)))
  have F1964 := F1931.other W1950 (Or.inl (Nat.ne_of_lt (by omega)))
  have F1965 := F1932.other W1950 (Or.inl (Nat.ne_of_lt (by omega)))
  have F1966 := F1933.other W1950 (Or.inl (Nat.ne_of_lt (by omega)))
  have F1967 := F1934.other W1950 (Or.inl (Nat.ne_of_lt (by omega)))
  have V1968 := V1936.other W1950 (Ne.symm (Nat.ne_of_lt (by omega)))
  have V1969 := V1937.other W1950 (Ne.symm (Nat.ne_of_lt (by omega)))
  have V1970 := V1938.other W1950 (Ne.symm (Nat.ne_of_lt (by omega)))
  have V1971 := V1939.other W1950 (Ne.symm (Nat.ne_of_lt (by omega)))
  have V1972 := V1940.other W1950 (Ne.symm (Nat.ne_of_lt (by omega)))
  have V1973 := V1941.other W1950 (Ne.symm (Nat.ne_of_lt (by omega)))
  have V1974 := V1942.other W1950 (Ne.symm (Nat.ne_of_lt (by omega)))
  have V1975 := V1943.other W1950 (Ne.symm (Nat.ne_of_lt (by omega)))
  have V1976 := V1944.other W1950 (Ne.symm (Nat.ne_of_lt (by omega)))
  have V1977 := V1917.other W1950 (Nat.ne_of_lt (by omega))
  refine own_aloadN X1950 hx (hb hby d15_43) rfl rfl 44 rfl ?_
  refine own_getF X1950 hx hZ hown (own_w hw 34 rfl) Via.refl e1950 F1963 (hb hby d15_44) 47 rfl (fun T1978 X1978 e1978 => ?_)
  refine own_aloadN X1978 hx (hb hby d15_47) rfl rfl 48 rfl ?_
  refine own_getF X1978 hx hZ hown (own_w hw 19 rfl) Via.refl e1978 F1958 (hb hby d15_48) 51 rfl (fun T1979 X1979 e1979 => ?_)
  refine own_iloadN X1979 hx (hb hby d15_51) rfl 52 rfl ?_
  refine own_iaload X1979 hx hZ e1979 V1950 0 rfl (1 : Int32) rfl (hb hby d15_52) 53 rfl ?_
  obtain ⟨clk, Ak, Sk, -⟩ := id V1972
  refine own_aaload X1979 hx hZ e1979 Ak rfl (v := .ref a6_) (by rw [Sk]; show ¬ ((1 : Int32) < 0 ∨ 2 ≤ Int32.toNatClampNeg 1); decide) (by rw [Sk]; rfl) (hb hby d15_53) 54 rfl ?_
  refine own_iload X1979 hx (hb hby d15_54) rfl 56 rfl ?_
  refine own_iaload X1979 hx hZ e1979 V1971 0 rfl (-1 : Int32) rfl (hb hby d15_56) 57 rfl ?_
  refine own_istore X1979 hx (hb hby d15_57) #[.val (.ref a), .val (.int (1 : Int32)), .val (.int (-1 : Int32)), .val (.int (0 : Int32)), .val (.int (-1 : Int32))] rfl 59 rfl ?_
  refine own_iinc X1979 hx (hb hby d15_59) rfl #[.val (.ref a), .val (.int (1 : Int32)), .val (.int (-1 : Int32)), .val (.int (1 : Int32)), .val (.int (-1 : Int32))] rfl 62 rfl ?_
  refine own_goto X1979 hx (hb hby d15_62) 8 ⟨by decide, by decide⟩ ?_
  refine own_iload X1979 hx (hb hby d15_8) rfl 10 rfl ?_
  refine own_iloadN X1979 hx (hb hby d15_10) rfl 11 rfl ?_
  refine own_icmpY X1979 hx (hb hby d15_11) (teq (by decide)).1 65 ⟨by decide, by decide⟩ ?_
  refine own_iloadN X1979 hx (hb hby d15_65) rfl 66 rfl ?_
  refine own_ireturn X1979 hx Bd.notSynchronized hG Bd.returns (hb hby d15_66) (by decide) (by decide) ?_
  rw [e1979]
  exact ⟨rfl, N1951, Z1952, ⟨E1953, F1954, F1955, F1956, F1957, F1958, F1959, F1960, F1961, F1962, F1963, F1964, F1965, F1966, F1967, V1977, V1950, V1968, V1969, V1970, V1971, V1972, V1973, V1974, V1975, V1976⟩⟩
def Q53 (Z : State) (a a1_ a2_ a3_ a4_ a5_ a6_ a7_ a8_ a9_ a10_ a11_ : Addr) (va vb vp : Int64) (h0 : Heap) (n0 : Nat) (v : Option Value) (h : Heap) (L : List Loc) : Prop := v = some (.int (0 : Int32)) ∧ Fr n0 L ∧ h = h0
theorem ef_rm53 (m : MethodId) (x0 : Addr) (x1 : Int32) : entryFrame m #[(.ref x0), (.int x1)] 2 = mkF m 0 #[.val (.ref x0), .val (.int x1)] [] := by first | (simp [entryFrame, mkF, argsToLocals, Value.category, maxLocals]; done) | rfl
set_option maxRecDepth 65536 in
set_option maxHeartbeats 40000000 in
theorem rm53 (l : Launch) (Z : State) (a0 : Array Value) (hw : ∀ d ∈ tables_1, d.before a0 Z = true) (ws : List Jvm.Cond) (a a1_ a2_ a3_ a4_ a5_ a6_ a7_ a8_ a9_ a10_ a11_ : Addr) (va vb vp : Int64) (h0 : Heap) (n0 : Nat) (Z0 : n0 ≤ h0.size) (ga : n0 ≤ a) (hord : own_Or a a1_ a2_ a3_ a4_ a5_ a6_ a7_ a8_ a9_ a10_ a11_) (B : own_PE Z h0 a a1_ a2_ a3_ a4_ a5_ a6_ a7_ a8_ a9_ a10_ a11_ (0 : Int32) (0 : Int32) (2 : Int32) ((List.replicate 127 (0 : Int32)).set 0 (0 : Int32)) ((List.replicate 127 (0 : Int32)).set 0 (1 : Int32)) [(0 : Int32), (1 : Int32)] [(1 : Int32), (0 : Int32)] [(-1 : Int32), (-1 : Int32)] [(1 : Int32), (-1 : Int32)] [(1 : Int32), (1 : Int32)] [va, vb] [vp, vp] [(((0 : Int64) + vp) + (0 : Int64)), (((0 : Int64) + vp) + (0 : Int64))]) (hc : va = vb) :
    MetFree l own_y9 (head1 (Jvm.Cond.code own_y9 prog_49_method_28_code 2 (some .int) :: ws) ({ frames := 0, cells := 0, slots := 0, locals := 0 } : Room)) (fun aR U => aR = #[(.ref a), (.int (-1 : Int32))] ∧ Z.Warmed39 U.vm ∧ U.heap = h0) (fun _ _ _ _ _ => True) (fun _ U o U' => ∃ v L, o = .returned v ∧ Q53 Z a a1_ a2_ a3_ a4_ a5_ a6_ a7_ a8_ a9_ a10_ a11_ va vb vp h0 n0 v U'.heap L ∧ FrameEnd U o U' L ({ frames := 0, cells := 0, slots := 0, locals := 0 } : Room).cells ({ frames := 0, cells := 0, slots := 0, locals := 0 } : Room).slots) := by
  refine MetFree.of_bodySF pf_9 hisR ?_
  intro p e s m args below meth c s₁ Bd hml0 hP hK
  obtain ⟨rfl, hZ, hhE⟩ := hP
  have hx := Bd.exec
  have hby := Bd.bytes
  have hml : c.maxLocals = 2 := hml0
  have hown : s.vm.findClass "com/example/equitide/equitide/policy/backfilling/AvlTree" = some m.cls := findClass_of_methodNamed Bd.named
  have hnm := (name_of_methodNamed Bd.named Bd.method).1
  have X0 : Stand p l e ({ frames := 0, cells := 0, slots := 0, locals := 0 } : Room) s m #[(.ref a), (.int (-1 : Int32))] below meth c s₁ [] 0 0 := Stand.of_body Bd
  have e0 : s₁.heap = h0 := by rw [← hhE, Bd.state]; rfl
  have N0 := Fr.nil n0
  show own_Go p e below (own_Post s (Q53 Z a a1_ a2_ a3_ a4_ a5_ a6_ a7_ a8_ a9_ a10_ a11_ va vb vp h0 n0) ({ frames := 0, cells := 0, slots := 0, locals := 0 } : Room).cells ({ frames := 0, cells := 0, slots := 0, locals := 0 } : Room).slots) (s₁.setTop (entryFrame m #[(.ref a), (.int (-1 : Int32))] 2))
  rw [ef_rm53]
  generalize hG : own_Post s (Q53 Z a a1_ a2_ a3_ a4_ a5_ a6_ a7_ a8_ a9_ a10_ a11_ va vb vp h0 n0) ({ frames := 0, cells := 0, slots := 0, locals := 0 } : Room).cells ({ frames := 0, cells := 0, slots := 0, locals := 0 } : Room).slots = G
  obtain ⟨o1, o2, o3, o4, o5, o6, o7, o8, o9, o10, o11⟩ := id hord
  obtain ⟨E0, F0_0, F1_0, F2_0, F3_0, F4_0, F5_0, F6_0, F7_0, F8_0, F9_0, F10_0, F11_0, F12_0, F13_0, V0_0, V1_0, V2_0, V3_0, V4_0, V5_0, V6_0, V7_0, V8_0, V9_0, V10_0⟩ := B
  refine own_iloadN X0 hx (hb hby d9_0) rfl 1 rfl ?_
  refine own_iconst X0 hx (hb hby d9_1) (-1 : Int32) rfl 2 rfl ?_
  refine own_icmpN X0 hx (hb hby d9_2) (teq (by decide)).2 5 rfl ?_
  refine own_iconst X0 hx (hb hby d9_5) (0 : Int32) rfl 6 rfl ?_
  refine own_goto X0 hx (hb hby d9_6) 15 ⟨by decide, by decide⟩ ?_
  refine own_ireturn X0 hx Bd.notSynchronized hG Bd.returns (hb hby d9_15) (by decide) (by decide) ?_
  rw [e0]
  exact ⟨rfl, N0, rfl⟩
def Q54 (Z : State) (a a1_ a2_ a3_ a4_ a5_ a6_ a7_ a8_ a9_ a10_ a11_ : Addr) (va vb vp : Int64) (h0 : Heap) (n0 : Nat) (v : Option Value) (h : Heap) (L : List Loc) : Prop := v = some (.int (1 : Int32)) ∧ Fr n0 L ∧ h = h0
theorem ef_rm54 (m : MethodId) (x0 : Addr) (x1 : Int32) : entryFrame m #[(.ref x0), (.int x1)] 2 = mkF m 0 #[.val (.ref x0), .val (.int x1)] [] := by first | (simp [entryFrame, mkF, argsToLocals, Value.category, maxLocals]; done) | rfl
set_option maxRecDepth 65536 in
set_option maxHeartbeats 40000000 in
theorem rm54 (l : Launch) (Z : State) (a0 : Array Value) (hw : ∀ d ∈ tables_1, d.before a0 Z = true) (ws : List Jvm.Cond) (a a1_ a2_ a3_ a4_ a5_ a6_ a7_ a8_ a9_ a10_ a11_ : Addr) (va vb vp : Int64) (h0 : Heap) (n0 : Nat) (Z0 : n0 ≤ h0.size) (ga : n0 ≤ a) (hord : own_Or a a1_ a2_ a3_ a4_ a5_ a6_ a7_ a8_ a9_ a10_ a11_) (B : own_PE Z h0 a a1_ a2_ a3_ a4_ a5_ a6_ a7_ a8_ a9_ a10_ a11_ (0 : Int32) (0 : Int32) (2 : Int32) ((List.replicate 127 (0 : Int32)).set 0 (0 : Int32)) ((List.replicate 127 (0 : Int32)).set 0 (1 : Int32)) [(0 : Int32), (1 : Int32)] [(1 : Int32), (0 : Int32)] [(-1 : Int32), (-1 : Int32)] [(1 : Int32), (-1 : Int32)] [(1 : Int32), (1 : Int32)] [va, vb] [vp, vp] [(((0 : Int64) + vp) + (0 : Int64)), (((0 : Int64) + vp) + (0 : Int64))]) (hc : va = vb) :
    MetFree l own_y9 (head1 (Jvm.Cond.code own_y9 prog_49_method_28_code 2 (some .int) :: ws) ({ frames := 0, cells := 0, slots := 0, locals := 0 } : Room)) (fun aR U => aR = #[(.ref a), (.int (1 : Int32))] ∧ Z.Warmed39 U.vm ∧ U.heap = h0) (fun _ _ _ _ _ => True) (fun _ U o U' => ∃ v L, o = .returned v ∧ Q54 Z a a1_ a2_ a3_ a4_ a5_ a6_ a7_ a8_ a9_ a10_ a11_ va vb vp h0 n0 v U'.heap L ∧ FrameEnd U o U' L ({ frames := 0, cells := 0, slots := 0, locals := 0 } : Room).cells ({ frames := 0, cells := 0, slots := 0, locals := 0 } : Room).slots) := by
  refine MetFree.of_bodySF pf_9 hisR ?_
  intro p e s m args below meth c s₁ Bd hml0 hP hK
  obtain ⟨rfl, hZ, hhE⟩ := hP
  have hx := Bd.exec
  have hby := Bd.bytes
  have hml : c.maxLocals = 2 := hml0
  have hown : s.vm.findClass "com/example/equitide/equitide/policy/backfilling/AvlTree" = some m.cls := findClass_of_methodNamed Bd.named
  have hnm := (name_of_methodNamed Bd.named Bd.method).1
  have X0 : Stand p l e ({ frames := 0, cells := 0, slots := 0, locals := 0 } : Room) s m #[(.ref a), (.int (1 : Int32))] below meth c s₁ [] 0 0 := Stand.of_body Bd
  have e0 : s₁.heap = h0 := by rw [← hhE, Bd.state]; rfl
  have N0 := Fr.nil n0
  show own_Go p e below (own_Post s (Q54 Z a a1_ a2_ a3_ a4_ a5_ a6_ a7_ a8_ a9_ a10_ a11_ va vb vp h0 n0) ({ frames := 0, cells := 0, slots := 0, locals := 0 } : Room).cells ({ frames := 0, cells := 0, slots := 0, locals := 0 } : Room).slots) (s₁.setTop (entryFrame m #[(.ref a), (.int (1 : Int32))] 2))
  rw [ef_rm54]
  generalize hG : own_Post s (Q54 Z a a1_ a2_ a3_ a4_ a5_ a6_ a7_ a8_ a9_ a10_ a11_ va vb vp h0 n0) ({ frames := 0, cells := 0, slots := 0, locals := 0 } : Room).cells ({ frames := 0, cells := 0, slots := 0, locals := 0 } : Room).slots = G
  obtain ⟨o1, o2, o3, o4, o5, o6, o7, o8, o9, o10, o11⟩ := id hord
  obtain ⟨E0, F0_0, F1_0, F2_0, F3_0, F4_0, F5_0, F6_0, F7_0, F8_0, F9_0, F10_0, F11_0, F12_0, F13_0, V0_0, V1_0, V2_0, V3_0, V4_0, V5_0, V6_0, V7_0, V8_0, V9_0, V10_0⟩ := B
  refine own_iloadN X0 hx (hb hby d9_0) rfl 1 rfl ?_
  refine own_iconst X0 hx (hb hby d9_1) (-1 : Int32) rfl 2 rfl ?_
  refine own_icmpY X0 hx (hb hby d9_2) (feq (by decide)).2 9 ⟨by decide, by decide⟩ ?_
  refine own_aloadN X0 hx (hb hby d9_9) rfl rfl 10 rfl ?_
  refine own_getF X0 hx hZ hown (own_w hw 37 rfl) Via.refl e0 F10_0 (hb hby d9_10) 13 rfl (fun T2018 X2018 e2018 => ?_)
  refine own_iloadN X2018 hx (hb hby d9_13) rfl 14 rfl ?_
  refine own_baload X2018 hx hZ e2018 V7_0 1 rfl (1 : Int32) rfl (hb hby d9_14) 15 rfl ?_
  refine own_ireturn X2018 hx Bd.notSynchronized hG Bd.returns (hb hby d9_15) (by decide) (by decide) ?_
  rw [e2018]
  exact ⟨rfl, N0, rfl⟩
def Q57 (Z : State) (a a1_ a2_ a3_ a4_ a5_ a6_ a7_ a8_ a9_ a10_ a11_ : Addr) (va vb vp : Int64) (h0 : Heap) (n0 : Nat) (v : Option Value) (h : Heap) (L : List Loc) : Prop := v = some (.int (-1 : Int32)) ∧ Fr n0 L ∧ h = h0
theorem ef_rm57 (m : MethodId) (x0 : Addr) (x1 : Int32) : entryFrame m #[(.ref x0), (.int x1)] 2 = mkF m 0 #[.val (.ref x0), .val (.int x1)] [] := by first | (simp [entryFrame, mkF, argsToLocals, Value.category, maxLocals]; done) | rfl
set_option maxRecDepth 65536 in
set_option maxHeartbeats 40000000 in
theorem rm57 (l : Launch) (Z : State) (a0 : Array Value) (hw : ∀ d ∈ tables_1, d.before a0 Z = true) (ws : List Jvm.Cond) (a a1_ a2_ a3_ a4_ a5_ a6_ a7_ a8_ a9_ a10_ a11_ : Addr) (va vb vp : Int64) (h0 : Heap) (n0 : Nat) (Z0 : n0 ≤ h0.size) (ga : n0 ≤ a) (hord : own_Or a a1_ a2_ a3_ a4_ a5_ a6_ a7_ a8_ a9_ a10_ a11_) (B : own_PE Z h0 a a1_ a2_ a3_ a4_ a5_ a6_ a7_ a8_ a9_ a10_ a11_ (0 : Int32) (0 : Int32) (2 : Int32) ((List.replicate 127 (0 : Int32)).set 0 (0 : Int32)) ((List.replicate 127 (0 : Int32)).set 0 (1 : Int32)) [(0 : Int32), (1 : Int32)] [(1 : Int32), (0 : Int32)] [(-1 : Int32), (-1 : Int32)] [(1 : Int32), (-1 : Int32)] [(2 : Int32), (1 : Int32)] [va, vb] [vp, vp] [(((0 : Int64) + vp) + (0 : Int64)), (((0 : Int64) + vp) + (0 : Int64))]) (hc : va = vb) :
    MetFree l own_y12 (head1 (Jvm.Cond.code own_y12 prog_49_method_7_code 2 (some .int) :: ws) ({ frames := 0, cells := 0, slots := 0, locals := 0 } : Room)) (fun aR U => aR = #[(.ref a), (.int (0 : Int32))] ∧ Z.Warmed39 U.vm ∧ U.heap = h0) (fun _ _ _ _ _ => True) (fun _ U o U' => ∃ v L, o = .returned v ∧ Q57 Z a a1_ a2_ a3_ a4_ a5_ a6_ a7_ a8_ a9_ a10_ a11_ va vb vp h0 n0 v U'.heap L ∧ FrameEnd U o U' L ({ frames := 0, cells := 0, slots := 0, locals := 0 } : Room).cells ({ frames := 0, cells := 0, slots := 0, locals := 0 } : Room).slots) := by
  refine MetFree.of_bodySF pf_12 hisR ?_
  intro p e s m args below meth c s₁ Bd hml0 hP hK
  obtain ⟨rfl, hZ, hhE⟩ := hP
  have hx := Bd.exec
  have hby := Bd.bytes
  have hml : c.maxLocals = 2 := hml0
  have hown : s.vm.findClass "com/example/equitide/equitide/policy/backfilling/AvlTree" = some m.cls := findClass_of_methodNamed Bd.named
  have hnm := (name_of_methodNamed Bd.named Bd.method).1
  have X0 : Stand p l e ({ frames := 0, cells := 0, slots := 0, locals := 0 } : Room) s m #[(.ref a), (.int (0 : Int32))] below meth c s₁ [] 0 0 := Stand.of_body Bd
  have e0 : s₁.heap = h0 := by rw [← hhE, Bd.state]; rfl
  have N0 := Fr.nil n0
  show own_Go p e below (own_Post s (Q57 Z a a1_ a2_ a3_ a4_ a5_ a6_ a7_ a8_ a9_ a10_ a11_ va vb vp h0 n0) ({ frames := 0, cells := 0, slots := 0, locals := 0 } : Room).cells ({ frames := 0, cells := 0, slots := 0, locals := 0 } : Room).slots) (s₁.setTop (entryFrame m #[(.ref a), (.int (0 : Int32))] 2))
  rw [ef_rm57]
  generalize hG : own_Post s (Q57 Z a a1_ a2_ a3_ a4_ a5_ a6_ a7_ a8_ a9_ a10_ a11_ va vb vp h0 n0) ({ frames := 0, cells := 0, slots := 0, locals := 0 } : Room).cells ({ frames := 0, cells := 0, slots := 0, locals := 0 } : Room).slots = G
  obtain ⟨o1, o2, o3, o4, o5, o6, o7, o8, o9, o10, o11⟩ := id hord
  obtain ⟨E0, F0_0, F1_0, F2_0, F3_0, F4_0, F5_0, F6_0, F7_0, F8_0, F9_0, F10_0, F11_0, F12_0, F13_0, V0_0, V1_0, V2_0, V3_0, V4_0, V5_0, V6_0, V7_0, V8_0, V9_0, V10_0⟩ := B
  refine own_aloadN X0 hx (hb hby d12_0) rfl rfl 1 rfl ?_
  refine own_getF X0 hx hZ hown (own_w hw 27 rfl) Via.refl e0 F7_0 (hb hby d12_1) 4 rfl (fun T2059 X2059 e2059 => ?_)
  refine own_iloadN X2059 hx (hb hby d12_4) rfl 5 rfl ?_
  refine own_iaload X2059 hx hZ e2059 V4_0 0 rfl (-1 : Int32) rfl (hb hby d12_5) 6 rfl ?_
  refine own_ireturn X2059 hx Bd.notSynchronized hG Bd.returns (hb hby d12_6) (by decide) (by decide) ?_
  rw [e2059]
  exact ⟨rfl, N0, rfl⟩
def Q58 (Z : State) (a a1_ a2_ a3_ a4_ a5_ a6_ a7_ a8_ a9_ a10_ a11_ : Addr) (va vb vp : Int64) (h0 : Heap) (n0 : Nat) (v : Option Value) (h : Heap) (L : List Loc) : Prop := v = some (.long (0 : Int64)) ∧ Fr n0 L ∧ h = h0
theorem ef_rm58 (m : MethodId) (x0 : Addr) (x1 : Int32) : entryFrame m #[(.ref x0), (.int x1)] 2 = mkF m 0 #[.val (.ref x0), .val (.int x1)] [] := by first | (simp [entryFrame, mkF, argsToLocals, Value.category, maxLocals]; done) | rfl
set_option maxRecDepth 65536 in
set_option maxHeartbeats 40000000 in
theorem rm58 (l : Launch) (Z : State) (a0 : Array Value) (hw : ∀ d ∈ tables_1, d.before a0 Z = true) (ws : List Jvm.Cond) (a a1_ a2_ a3_ a4_ a5_ a6_ a7_ a8_ a9_ a10_ a11_ : Addr) (va vb vp : Int64) (h0 : Heap) (n0 : Nat) (Z0 : n0 ≤ h0.size) (ga : n0 ≤ a) (hord : own_Or a a1_ a2_ a3_ a4_ a5_ a6_ a7_ a8_ a9_ a10_ a11_) (B : own_PE Z h0 a a1_ a2_ a3_ a4_ a5_ a6_ a7_ a8_ a9_ a10_ a11_ (0 : Int32) (0 : Int32) (2 : Int32) ((List.replicate 127 (0 : Int32)).set 0 (0 : Int32)) ((List.replicate 127 (0 : Int32)).set 0 (1 : Int32)) [(0 : Int32), (1 : Int32)] [(1 : Int32), (0 : Int32)] [(-1 : Int32), (-1 : Int32)] [(1 : Int32), (-1 : Int32)] [(2 : Int32), (1 : Int32)] [va, vb] [vp, vp] [(((0 : Int64) + vp) + (0 : Int64)), (((0 : Int64) + vp) + (0 : Int64))]) (hc : va = vb) :
    MetFree l own_y13 (head1 (Jvm.Cond.code own_y13 prog_66_method_10_code 2 (some .long) :: ws) ({ frames := 0, cells := 0, slots := 0, locals := 0 } : Room)) (fun aR U => aR = #[(.ref a), (.int (-1 : Int32))] ∧ Z.Warmed39 U.vm ∧ U.heap = h0) (fun _ _ _ _ _ => True) (fun _ U o U' => ∃ v L, o = .returned v ∧ Q58 Z a a1_ a2_ a3_ a4_ a5_ a6_ a7_ a8_ a9_ a10_ a11_ va vb vp h0 n0 v U'.heap L ∧ FrameEnd U o U' L ({ frames := 0, cells := 0, slots := 0, locals := 0 } : Room).cells ({ frames := 0, cells := 0, slots := 0, locals := 0 } : Room).slots) := by
  refine MetFree.of_bodySF pf_13 hisR ?_
  intro p e s m args below meth c s₁ Bd hml0 hP hK
  obtain ⟨rfl, hZ, hhE⟩ := hP
  have hx := Bd.exec
  have hby := Bd.bytes
  have hml : c.maxLocals = 2 := hml0
  have hown : s.vm.findClass "com/example/equitide/equitide/policy/backfilling/PlannedEnds" = some m.cls := findClass_of_methodNamed Bd.named
  have hnm := (name_of_methodNamed Bd.named Bd.method).1
  have X0 : Stand p l e ({ frames := 0, cells := 0, slots := 0, locals := 0 } : Room) s m #[(.ref a), (.int (-1 : Int32))] below meth c s₁ [] 0 0 := Stand.of_body Bd
  have e0 : s₁.heap = h0 := by rw [← hhE, Bd.state]; rfl
  have N0 := Fr.nil n0
  show own_Go p e below (own_Post s (Q58 Z a a1_ a2_ a3_ a4_ a5_ a6_ a7_ a8_ a9_ a10_ a11_ va vb vp h0 n0) ({ frames := 0, cells := 0, slots := 0, locals := 0 } : Room).cells ({ frames := 0, cells := 0, slots := 0, locals := 0 } : Room).slots) (s₁.setTop (entryFrame m #[(.ref a), (.int (-1 : Int32))] 2))
  rw [ef_rm58]
  generalize hG : own_Post s (Q58 Z a a1_ a2_ a3_ a4_ a5_ a6_ a7_ a8_ a9_ a10_ a11_ va vb vp h0 n0) ({ frames := 0, cells := 0, slots := 0, locals := 0 } : Room).cells ({ frames := 0, cells := 0, slots := 0, locals := 0 } : Room).slots = G
  obtain ⟨o1, o2, o3, o4, o5, o6, o7, o8, o9, o10, o11⟩ := id hord
  obtain ⟨E0, F0_0, F1_0, F2_0, F3_0, F4_0, F5_0, F6_0, F7_0, F8_0, F9_0, F10_0, F11_0, F12_0, F13_0, V0_0, V1_0, V2_0, V3_0, V4_0, V5_0, V6_0, V7_0, V8_0, V9_0, V10_0⟩ := B
  refine own_iloadN X0 hx (hb hby d13_0) rfl 1 rfl ?_
  refine own_iconst X0 hx (hb hby d13_1) (-1 : Int32) rfl 2 rfl ?_
  refine own_icmpN X0 hx (hb hby d13_2) (teq (by decide)).2 5 rfl ?_
  refine own_lconst X0 hx (hb hby d13_5) (0 : Int64) rfl 6 rfl ?_
  refine own_goto X0 hx (hb hby d13_6) 15 ⟨by decide, by decide⟩ ?_
  refine own_lreturn X0 hx Bd.notSynchronized hG Bd.returns (hb hby d13_15) (by decide) (by decide) ?_
  rw [e0]
  exact ⟨rfl, N0, rfl⟩
def Q59 (Z : State) (a a1_ a2_ a3_ a4_ a5_ a6_ a7_ a8_ a9_ a10_ a11_ : Addr) (va vb vp : Int64) (h0 : Heap) (n0 : Nat) (v : Option Value) (h : Heap) (L : List Loc) : Prop := v = some (.int (1 : Int32)) ∧ Fr n0 L ∧ h = h0
theorem ef_rm59 (m : MethodId) (x0 : Addr) (x1 : Int32) : entryFrame m #[(.ref x0), (.int x1)] 2 = mkF m 0 #[.val (.ref x0), .val (.int x1)] [] := by first | (simp [entryFrame, mkF, argsToLocals, Value.category, maxLocals]; done) | rfl
set_option maxRecDepth 65536 in
set_option maxHeartbeats 40000000 in
theorem rm59 (l : Launch) (Z : State) (a0 : Array Value) (hw : ∀ d ∈ tables_1, d.before a0 Z = true) (ws : List Jvm.Cond) (a a1_ a2_ a3_ a4_ a5_ a6_ a7_ a8_ a9_ a10_ a11_ : Addr) (va vb vp : Int64) (h0 : Heap) (n0 : Nat) (Z0 : n0 ≤ h0.size) (ga : n0 ≤ a) (hord : own_Or a a1_ a2_ a3_ a4_ a5_ a6_ a7_ a8_ a9_ a10_ a11_) (B : own_PE Z h0 a a1_ a2_ a3_ a4_ a5_ a6_ a7_ a8_ a9_ a10_ a11_ (0 : Int32) (0 : Int32) (2 : Int32) ((List.replicate 127 (0 : Int32)).set 0 (0 : Int32)) ((List.replicate 127 (0 : Int32)).set 0 (1 : Int32)) [(0 : Int32), (1 : Int32)] [(1 : Int32), (0 : Int32)] [(-1 : Int32), (-1 : Int32)] [(1 : Int32), (-1 : Int32)] [(2 : Int32), (1 : Int32)] [va, vb] [vp, vp] [(((0 : Int64) + vp) + (0 : Int64)), (((0 : Int64) + vp) + (0 : Int64))]) (hc : va = vb) :
    MetFree l own_y14 (head1 (Jvm.Cond.code own_y14 prog_49_method_8_code 2 (some .int) :: ws) ({ frames := 0, cells := 0, slots := 0, locals := 0 } : Room)) (fun aR U => aR = #[(.ref a), (.int (0 : Int32))] ∧ Z.Warmed39 U.vm ∧ U.heap = h0) (fun _ _ _ _ _ => True) (fun _ U o U' => ∃ v L, o = .returned v ∧ Q59 Z a a1_ a2_ a3_ a4_ a5_ a6_ a7_ a8_ a9_ a10_ a11_ va vb vp h0 n0 v U'.heap L ∧ FrameEnd U o U' L ({ frames := 0, cells := 0, slots := 0, locals := 0 } : Room).cells ({ frames := 0, cells := 0, slots := 0, locals := 0 } : Room).slots) := by
  refine MetFree.of_bodySF pf_14 hisR ?_
  intro p e s m args below meth c s₁ Bd hml0 hP hK
  obtain ⟨rfl, hZ, hhE⟩ := hP
  have hx := Bd.exec
  have hby := Bd.bytes
  have hml : c.maxLocals = 2 := hml0
  have hown : s.vm.findClass "com/example/equitide/equitide/policy/backfilling/AvlTree" = some m.cls := findClass_of_methodNamed Bd.named
  have hnm := (name_of_methodNamed Bd.named Bd.method).1
  have X0 : Stand p l e ({ frames := 0, cells := 0, slots := 0, locals := 0 } : Room) s m #[(.ref a), (.int (0 : Int32))] below meth c s₁ [] 0 0 := Stand.of_body Bd
  have e0 : s₁.heap = h0 := by rw [← hhE, Bd.state]; rfl
  have N0 := Fr.nil n0
  show own_Go p e below (own_Post s (Q59 Z a a1_ a2_ a3_ a4_ a5_ a6_ a7_ a8_ a9_ a10_ a11_ va vb vp h0 n0) ({ frames := 0, cells := 0, slots := 0, locals := 0 } : Room).cells ({ frames := 0, cells := 0, slots := 0, locals := 0 } : Room).slots) (s₁.setTop (entryFrame m #[(.ref a), (.int (0 : Int32))] 2))
  rw [ef_rm59]
  generalize hG : own_Post s (Q59 Z a a1_ a2_ a3_ a4_ a5_ a6_ a7_ a8_ a9_ a10_ a11_ va vb vp h0 n0) ({ frames := 0, cells := 0, slots := 0, locals := 0 } : Room).cells ({ frames := 0, cells := 0, slots := 0, locals := 0 } : Room).slots = G
  obtain ⟨o1, o2, o3, o4, o5, o6, o7, o8, o9, o10, o11⟩ := id hord
  obtain ⟨E0, F0_0, F1_0, F2_0, F3_0, F4_0, F5_0, F6_0, F7_0, F8_0, F9_0, F10_0, F11_0, F12_0, F13_0, V0_0, V1_0, V2_0, V3_0, V4_0, V5_0, V6_0, V7_0, V8_0, V9_0, V10_0⟩ := B
  refine own_aloadN X0 hx (hb hby d14_0) rfl rfl 1 rfl ?_
  refine own_getF X0 hx hZ hown (own_w hw 29 rfl) Via.refl e0 F8_0 (hb hby d14_1) 4 rfl (fun T2065 X2065 e2065 => ?_)
  refine own_iloadN X2065 hx (hb hby d14_4) rfl 5 rfl ?_
  refine own_iaload X2065 hx hZ e2065 V5_0 0 rfl (1 : Int32) rfl (hb hby d14_5) 6 rfl ?_
  refine own_ireturn X2065 hx Bd.notSynchronized hG Bd.returns (hb hby d14_6) (by decide) (by decide) ?_
  rw [e2065]
  exact ⟨rfl, N0, rfl⟩
def Q60 (Z : State) (a a1_ a2_ a3_ a4_ a5_ a6_ a7_ a8_ a9_ a10_ a11_ : Addr) (va vb vp : Int64) (h0 : Heap) (n0 : Nat) (v : Option Value) (h : Heap) (L : List Loc) : Prop := v = some (.long (((0 : Int64) + vp) + (0 : Int64))) ∧ Fr n0 L ∧ h = h0
theorem ef_rm60 (m : MethodId) (x0 : Addr) (x1 : Int32) : entryFrame m #[(.ref x0), (.int x1)] 2 = mkF m 0 #[.val (.ref x0), .val (.int x1)] [] := by first | (simp [entryFrame, mkF, argsToLocals, Value.category, maxLocals]; done) | rfl
set_option maxRecDepth 65536 in
set_option maxHeartbeats 40000000 in
theorem rm60 (l : Launch) (Z : State) (a0 : Array Value) (hw : ∀ d ∈ tables_1, d.before a0 Z = true) (ws : List Jvm.Cond) (a a1_ a2_ a3_ a4_ a5_ a6_ a7_ a8_ a9_ a10_ a11_ : Addr) (va vb vp : Int64) (h0 : Heap) (n0 : Nat) (Z0 : n0 ≤ h0.size) (ga : n0 ≤ a) (hord : own_Or a a1_ a2_ a3_ a4_ a5_ a6_ a7_ a8_ a9_ a10_ a11_) (B : own_PE Z h0 a a1_ a2_ a3_ a4_ a5_ a6_ a7_ a8_ a9_ a10_ a11_ (0 : Int32) (0 : Int32) (2 : Int32) ((List.replicate 127 (0 : Int32)).set 0 (0 : Int32)) ((List.replicate 127 (0 : Int32)).set 0 (1 : Int32)) [(0 : Int32), (1 : Int32)] [(1 : Int32), (0 : Int32)] [(-1 : Int32), (-1 : Int32)] [(1 : Int32), (-1 : Int32)] [(2 : Int32), (1 : Int32)] [va, vb] [vp, vp] [(((0 : Int64) + vp) + (0 : Int64)), (((0 : Int64) + vp) + (0 : Int64))]) (hc : va = vb) :
    MetFree l own_y13 (head1 (Jvm.Cond.code own_y13 prog_66_method_10_code 2 (some .long) :: ws) ({ frames := 0, cells := 0, slots := 0, locals := 0 } : Room)) (fun aR U => aR = #[(.ref a), (.int (1 : Int32))] ∧ Z.Warmed39 U.vm ∧ U.heap = h0) (fun _ _ _ _ _ => True) (fun _ U o U' => ∃ v L, o = .returned v ∧ Q60 Z a a1_ a2_ a3_ a4_ a5_ a6_ a7_ a8_ a9_ a10_ a11_ va vb vp h0 n0 v U'.heap L ∧ FrameEnd U o U' L ({ frames := 0, cells := 0, slots := 0, locals := 0 } : Room).cells ({ frames := 0, cells := 0, slots := 0, locals := 0 } : Room).slots) := by
  refine MetFree.of_bodySF pf_13 hisR ?_
  intro p e s m args below meth c s₁ Bd hml0 hP hK
  obtain ⟨rfl, hZ, hhE⟩ := hP
  have hx := Bd.exec
  have hby := Bd.bytes
  have hml : c.maxLocals = 2 := hml0
  have hown : s.vm.findClass "com/example/equitide/equitide/policy/backfilling/PlannedEnds" = some m.cls := findClass_of_methodNamed Bd.named
  have hnm := (name_of_methodNamed Bd.named Bd.method).1
  have X0 : Stand p l e ({ frames := 0, cells := 0, slots := 0, locals := 0 } : Room) s m #[(.ref a), (.int (1 : Int32))] below meth c s₁ [] 0 0 := Stand.of_body Bd
  have e0 : s₁.heap = h0 := by rw [← hhE, Bd.state]; rfl
  have N0 := Fr.nil n0
  show own_Go p e below (own_Post s (Q60 Z a a1_ a2_ a3_ a4_ a5_ a6_ a7_ a8_ a9_ a10_ a11_ va vb vp h0 n0) ({ frames := 0, cells := 0, slots := 0, locals := 0 } : Room).cells ({ frames := 0, cells := 0, slots := 0, locals := 0 } : Room).slots) (s₁.setTop (entryFrame m #[(.ref a), (.int (1 : Int32))] 2))
  rw [ef_rm60]
  generalize hG : own_Post s (Q60 Z a a1_ a2_ a3_ a4_ a5_ a6_ a7_ a8_ a9_ a10_ a11_ va vb vp h0 n0) ({ frames := 0, cells := 0, slots := 0, locals := 0 } : Room).cells ({ frames := 0, cells := 0, slots := 0, locals := 0 } : Room).slots = G
  obtain ⟨o1, o2, o3, o4, o5, o6, o7, o8, o9, o10, o11⟩ := id hord
  obtain ⟨E0, F0_0, F1_0, F2_0, F3_0, F4_0, F5_0, F6_0, F7_0, F8_0, F9_0, F10_0, F11_0, F12_0, F13_0, V0_0, V1_0, V2_0, V3_0, V4_0, V5_0, V6_0, V7_0, V8_0, V9_0, V10_0⟩ := B
  refine own_iloadN X0 hx (hb hby d13_0) rfl 1 rfl ?_
  refine own_iconst X0 hx (hb hby d13_1) (-1 : Int32) rfl 2 rfl ?_
  refine own_icmpY X0 hx (hb hby d13_2) (feq (by decide)).2 9 ⟨by decide, by decide⟩ ?_
  refine own_aloadN X0 hx (hb hby d13_9) rfl rfl 10 rfl ?_
  refine own_getF X0 hx hZ hown (own_w hw 44 rfl) Via.refl e0 F13_0 (hb hby d13_10) 13 rfl (fun T2068 X2068 e2068 => ?_)
  refine own_iloadN X2068 hx (hb hby d13_13) rfl 14 rfl ?_
  refine own_laload X2068 hx hZ e2068 V10_0 1 rfl (((0 : Int64) + vp) + (0 : Int64)) rfl (hb hby d13_14) 15 rfl ?_
  refine own_lreturn X2068 hx Bd.notSynchronized hG Bd.returns (hb hby d13_15) (by decide) (by decide) ?_
  rw [e2068]
  exact ⟨rfl, N0, rfl⟩
def Q56 (Z : State) (a a1_ a2_ a3_ a4_ a5_ a6_ a7_ a8_ a9_ a10_ a11_ : Addr) (va vb vp : Int64) (h0 : Heap) (n0 : Nat) (v : Option Value) (h : Heap) (L : List Loc) : Prop := v = none ∧ Fr n0 L ∧ n0 ≤ h.size ∧ own_PE Z h a a1_ a2_ a3_ a4_ a5_ a6_ a7_ a8_ a9_ a10_ a11_ (0 : Int32) (0 : Int32) (2 : Int32) ((List.replicate 127 (0 : Int32)).set 0 (0 : Int32)) ((List.replicate 127 (0 : Int32)).set 0 (1 : Int32)) [(0 : Int32), (1 : Int32)] [(1 : Int32), (0 : Int32)] [(-1 : Int32), (-1 : Int32)] [(1 : Int32), (-1 : Int32)] [(2 : Int32), (1 : Int32)] [va, vb] [vp, vp] [(((0 : Int64) + vp) + (((0 : Int64) + vp) + (0 : Int64))), (((0 : Int64) + vp) + (0 : Int64))]
theorem ef_rm56 (m : MethodId) (x0 : Addr) (x1 : Int32) : entryFrame m #[(.ref x0), (.int x1)] 2 = mkF m 0 #[.val (.ref x0), .val (.int x1)] [] := by first | (simp [entryFrame, mkF, argsToLocals, Value.category, maxLocals]; done) | rfl
set_option maxRecDepth 65536 in
set_option maxHeartbeats 40000000 in
theorem rm56 (l : Launch) (Z : State) (a0 : Array Value) (hw : ∀ d ∈ tables_1, d.before a0 Z = true) (ws : List Jvm.Cond) (a a1_ a2_ a3_ a4_ a5_ a6_ a7_ a8_ a9_ a10_ a11_ : Addr) (va vb vp : Int64) (h0 : Heap) (n0 : Nat) (Z0 : n0 ≤ h0.size) (ga : n0 ≤ a) (hord : own_Or a a1_ a2_ a3_ a4_ a5_ a6_ a7_ a8_ a9_ a10_ a11_) (B : own_PE Z h0 a a1_ a2_ a3_ a4_ a5_ a6_ a7_ a8_ a9_ a10_ a11_ (0 : Int32) (0 : Int32) (2 : Int32) ((List.replicate 127 (0 : Int32)).set 0 (0 : Int32)) ((List.replicate 127 (0 : Int32)).set 0 (1 : Int32)) [(0 : Int32), (1 : Int32)] [(1 : Int32), (0 : Int32)] [(-1 : Int32), (-1 : Int32)] [(1 : Int32), (-1 : Int32)] [(2 : Int32), (1 : Int32)] [va, vb] [vp, vp] [(((0 : Int64) + vp) + (0 : Int64)), (((0 : Int64) + vp) + (0 : Int64))]) (hc : va = vb) :
    MetFree l own_y11 (head1 (Jvm.Cond.code own_y11 prog_66_method_8_code 2 none :: ws) ({ frames := 1, cells := 0, slots := 0, locals := 18 } : Room)) (fun aR U => aR = #[(.ref a), (.int (0 : Int32))] ∧ Z.Warmed39 U.vm ∧ U.heap = h0) (fun _ _ _ _ _ => True) (fun _ U o U' => ∃ v L, o = .returned v ∧ Q56 Z a a1_ a2_ a3_ a4_ a5_ a6_ a7_ a8_ a9_ a10_ a11_ va vb vp h0 n0 v U'.heap L ∧ FrameEnd U o U' L ({ frames := 1, cells := 0, slots := 0, locals := 18 } : Room).cells ({ frames := 1, cells := 0, slots := 0, locals := 18 } : Room).slots) := by
  refine MetFree.of_bodySF pf_11 hisR ?_
  intro p e s m args below meth c s₁ Bd hml0 hP hK
  obtain ⟨rfl, hZ, hhE⟩ := hP
  have hx := Bd.exec
  have hby := Bd.bytes
  have hml : c.maxLocals = 2 := hml0
  have hown : s.vm.findClass "com/example/equitide/equitide/policy/backfilling/PlannedEnds" = some m.cls := findClass_of_methodNamed Bd.named
  have hnm := (name_of_methodNamed Bd.named Bd.method).1
  have X0 : Stand p l e ({ frames := 1, cells := 0, slots := 0, locals := 18 } : Room) s m #[(.ref a), (.int (0 : Int32))] below meth c s₁ [] 0 0 := Stand.of_body Bd
  have e0 : s₁.heap = h0 := by rw [← hhE, Bd.state]; rfl
  have N0 := Fr.nil n0
  show own_Go p e below (own_Post s (Q56 Z a a1_ a2_ a3_ a4_ a5_ a6_ a7_ a8_ a9_ a10_ a11_ va vb vp h0 n0) ({ frames := 1, cells := 0, slots := 0, locals := 18 } : Room).cells ({ frames := 1, cells := 0, slots := 0, locals := 18 } : Room).slots) (s₁.setTop (entryFrame m #[(.ref a), (.int (0 : Int32))] 2))
  rw [ef_rm56]
  generalize hG : own_Post s (Q56 Z a a1_ a2_ a3_ a4_ a5_ a6_ a7_ a8_ a9_ a10_ a11_ va vb vp h0 n0) ({ frames := 1, cells := 0, slots := 0, locals := 18 } : Room).cells ({ frames := 1, cells := 0, slots := 0, locals := 18 } : Room).slots = G
  obtain ⟨o1, o2, o3, o4, o5, o6, o7, o8, o9, o10, o11⟩ := id hord
  obtain ⟨E0, F0_0, F1_0, F2_0, F3_0, F4_0, F5_0, F6_0, F7_0, F8_0, F9_0, F10_0, F11_0, F12_0, F13_0, V0_0, V1_0, V2_0, V3_0, V4_0, V5_0, V6_0, V7_0, V8_0, V9_0, V10_0⟩ := B
  refine own_aloadN X0 hx (hb hby d11_0) rfl rfl 1 rfl ?_
  refine own_getF X0 hx hZ hown (own_w hw 44 rfl) Via.refl e0 F13_0 (hb hby d11_1) 4 rfl (fun T2058 X2058 e2058 => ?_)
  refine own_iloadN X2058 hx (hb hby d11_4) rfl 5 rfl ?_
  refine own_aloadN X2058 hx (hb hby d11_5) rfl rfl 6 rfl ?_
  refine own_aloadN X2058 hx (hb hby d11_6) rfl rfl 7 rfl ?_
  refine own_iloadN X2058 hx (hb hby d11_7) rfl 8 rfl ?_
  refine own_callU X2058 hx hZ hown (own_w hw 87 rfl) (own_w hw 88 rfl) (own_w hw 89 rfl) (own_w hw 91 rfl) (own_w hw 90 rfl) (own_w hw 9 rfl) (own_w hw 92 rfl) (by decide) e2058 E0 (rm57 l Z a0 hw [] a a1_ a2_ a3_ a4_ a5_ a6_ a7_ a8_ a9_ a10_ a11_ va vb vp h0 n0 Z0 ga hord ⟨E0, F0_0, F1_0, F2_0, F3_0, F4_0, F5_0, F6_0, F7_0, F8_0, F9_0, F10_0, F11_0, F12_0, F13_0, V0_0, V1_0, V2_0, V3_0, V4_0, V5_0, V6_0, V7_0, V8_0, V9_0, V10_0⟩ hc) (by rw [hml]; rfl) pd_2 (argsL := [(.int (0 : Int32))]) rfl (rest := [(.ref a), (.int (0 : Int32)), (.ref a11_)]) rfl (hb hby d11_8) 3 (Nat.le_of_eq rfl) (by decide) (by decide) (by decide) (by decide) 11 rfl (fun T2060 L2060 v2060 X2060 hQ2060 => ?_)
  obtain ⟨rfl, N2060, e2060⟩ := hQ2060
  have N2061 := Fr.app N0 N2060
  show own_Go p e below G (T2060.setTop (mkF m 11 #[.val (.ref a), .val (.int (0 : Int32))] [(.int (-1 : Int32)), (.ref a), (.int (0 : Int32)), (.ref a11_)]))
  refine own_callP X2060 hx hZ hown (own_w hw 93 rfl) (own_w hw 94 rfl) (own_w hw 95 rfl) (own_niI hZ (own_w hw 1 rfl)) (own_w hw 2 rfl) (own_w hw 96 rfl) (by decide) e2060 E0 (rm58 l Z a0 hw [] a a1_ a2_ a3_ a4_ a5_ a6_ a7_ a8_ a9_ a10_ a11_ va vb vp h0 n0 Z0 ga hord ⟨E0, F0_0, F1_0, F2_0, F3_0, F4_0, F5_0, F6_0, F7_0, F8_0, F9_0, F10_0, F11_0, F12_0, F13_0, V0_0, V1_0, V2_0, V3_0, V4_0, V5_0, V6_0, V7_0, V8_0, V9_0, V10_0⟩ hc) (by rw [hml]; rfl) pd_4 (argsL := [(.int (-1 : Int32))]) rfl (rest := [(.int (0 : Int32)), (.ref a11_)]) rfl (hb hby d11_11) 2 (Nat.le_of_eq rfl) (by decide) (by decide) (by decide) (by decide) 14 rfl (fun T2062 L2062 v2062 X2062 hQ2062 => ?_)
  obtain ⟨rfl, N2062, e2062⟩ := hQ2062
  have N2063 := Fr.app N2061 N2062
  show own_Go p e below G (T2062.setTop (mkF m 14 #[.val (.ref a), .val (.int (0 : Int32))] [(.long (0 : Int64)), (.int (0 : Int32)), (.ref a11_)]))
  refine own_aloadN X2062 hx (hb hby d11_14) rfl rfl 15 rfl ?_
  refine own_getF X2062 hx hZ hown (own_w hw 42 rfl) Via.refl e2062 F12_0 (hb hby d11_15) 18 rfl (fun T2064 X2064 e2064 => ?_)
  refine own_iloadN X2064 hx (hb hby d11_18) rfl 19 rfl ?_
  refine own_laload X2064 hx hZ e2064 V9_0 0 rfl vp rfl (hb hby d11_19) 20 rfl ?_
  refine own_ladd X2064 hx (hb hby d11_20) 21 rfl ?_
  refine own_aloadN X2064 hx (hb hby d11_21) rfl rfl 22 rfl ?_
  refine own_aloadN X2064 hx (hb hby d11_22) rfl rfl 23 rfl ?_
  refine own_iloadN X2064 hx (hb hby d11_23) rfl 24 rfl ?_
  refine own_callU X2064 hx hZ hown (own_w hw 97 rfl) (own_w hw 98 rfl) (own_w hw 99 rfl) (own_w hw 101 rfl) (own_w hw 100 rfl) (own_w hw 9 rfl) (own_w hw 102 rfl) (by decide) e2064 E0 (rm59 l Z a0 hw [] a a1_ a2_ a3_ a4_ a5_ a6_ a7_ a8_ a9_ a10_ a11_ va vb vp h0 n0 Z0 ga hord ⟨E0, F0_0, F1_0, F2_0, F3_0, F4_0, F5_0, F6_0, F7_0, F8_0, F9_0, F10_0, F11_0, F12_0, F13_0, V0_0, V1_0, V2_0, V3_0, V4_0, V5_0, V6_0, V7_0, V8_0, V9_0, V10_0⟩ hc) (by rw [hml]; rfl) pd_2 (argsL := [(.int (0 : Int32))]) rfl (rest := [(.ref a), (.long ((0 : Int64) + vp)), (.int (0 : Int32)), (.ref a11_)]) rfl (hb hby d11_24) 5 (Nat.le_of_eq rfl) (by decide) (by decide) (by decide) (by decide) 27 rfl (fun T2066 L2066 v2066 X2066 hQ2066 => ?_)
  obtain ⟨rfl, N2066, e2066⟩ := hQ2066
  have N2067 := Fr.app N2063 N2066
  show own_Go p e below G (T2066.setTop (mkF m 27 #[.val (.ref a), .val (.int (0 : Int32))] [(.int (1 : Int32)), (.ref a), (.long ((0 : Int64) + vp)), (.int (0 : Int32)), (.ref a11_)]))
  refine own_callP X2066 hx hZ hown (own_w hw 93 rfl) (own_w hw 94 rfl) (own_w hw 95 rfl) (own_niI hZ (own_w hw 1 rfl)) (own_w hw 2 rfl) (own_w hw 96 rfl) (by decide) e2066 E0 (rm60 l Z a0 hw [] a a1_ a2_ a3_ a4_ a5_ a6_ a7_ a8_ a9_ a10_ a11_ va vb vp h0 n0 Z0 ga hord ⟨E0, F0_0, F1_0, F2_0, F3_0, F4_0, F5_0, F6_0, F7_0, F8_0, F9_0, F10_0, F11_0, F12_0, F13_0, V0_0, V1_0, V2_0, V3_0, V4_0, V5_0, V6_0, V7_0, V8_0, V9_0, V10_0⟩ hc) (by rw [hml]; rfl) pd_4 (argsL := [(.int (1 : Int32))]) rfl (rest := [(.long ((0 : Int64) + vp)), (.int (0 : Int32)), (.ref a11_)]) rfl (hb hby d11_27) 4 (Nat.le_of_eq rfl) (by decide) (by decide) (by decide) (by decide) 30 rfl (fun T2069 L2069 v2069 X2069 hQ2069 => ?_)
  obtain ⟨rfl, N2069, e2069⟩ := hQ2069
  have N2070 := Fr.app N2067 N2069
  show own_Go p e below G (T2069.setTop (mkF m 30 #[.val (.ref a), .val (.int (0 : Int32))] [(.long (((0 : Int64) + vp) + (0 : Int64))), (.long ((0 : Int64) + vp)), (.int (0 : Int32)), (.ref a11_)]))
  refine own_ladd X2069 hx (hb hby d11_30) 31 rfl ?_
  refine own_lastore X2069 hx hZ e2069 V10_0 0 rfl (by simp) (hb hby d11_31) 32 rfl (fun T2071 h2071 X2071 e2071 W2071 V2071 => ?_)
  rw [show [(((0 : Int64) + vp) + (0 : Int64)), (((0 : Int64) + vp) + (0 : Int64))].set 0 (((0 : Int64) + vp) + (((0 : Int64) + vp) + (0 : Int64))) = [(((0 : Int64) + vp) + (((0 : Int64) + vp) + (0 : Int64))), (((0 : Int64) + vp) + (0 : Int64))] from rfl] at V2071
  have N2072 := Fr.snoc X2071 N2070 (by omega)
  have Z2073 : n0 ≤ h2071.size := by rw [W2071.size]; exact Z0
  have E2074 := E0.wr W2071
  have F2075 := F0_0.other W2071 (Or.inl (Nat.ne_of_lt (by omega)))
  have F2076 := F1_0.other W2071 (Or.inl (Nat.ne_of_lt (by omega)))
  have F2077 := F2_0.other W2071 (Or.inl (Nat.ne_of_lt (by omega)))
  have F2078 := F3_0.other W2071 (Or.inl (Nat.ne_of_lt (by omega)))
  have F2079 := F4_0.other W2071 (Or.inl (Nat.ne_of_lt (by omega)))
  have F2080 := F5_0.other W2071 (Or.inl (Nat.ne_of_lt (by omega)))
  have F2081 := F6_0.other W2071 (Or.inl (Nat.ne_of_lt (by omega)))
  have F2082 := F7_0.other W2071 (Or.inl (Nat.ne_of_lt (by omega)))
  have F2083 := F8_0.other W2071 (Or.inl (Nat.ne_of_lt (by omega)))
  have F2084 := F9_0.other W2071 (Or.inl (Nat.ne_of_lt (by omega)))
  have F2085 := F10_0.other W2071 (Or.inl (Nat.ne_of_lt (by omega)))
  have F2086 := F11_0.other W2071 (Or.inl (Nat.ne_of_lt (by omega)))
  have F2087 := F12_0.other W2071 (Or.inl (Nat.ne_of_lt (by omega)))
  have F2088 := F13_0.other W2071 (Or.inl (Nat.ne_of_lt (by omega)))
  have V2089 := V0_0.other W2071 (Nat.ne_of_lt (by omega))
  have V2090 := V1_0.other W2071 (Nat.ne_of_lt (by omega))
  have V2091 := V2_0.other W2071 (Nat.ne_of_lt (by omega))
  have V2092 := V3_0.other W2071 (Nat.ne_of_lt (by omega))
  have V2093 := V4_0.other W2071 (Nat.ne_of_lt (by omega))
  have V2094 := V5_0.other W2071 (Nat.ne_of_lt (by omega))
  have V2095 := V6_0.other W2071 (Nat.ne_of_lt (by omega))
  have V2096 := V7_0.other W2071 (Nat.ne_of_lt (by omega))
  have V2097 := V8_0.other W2071 (Nat.ne_of_lt (by omega))
  have V2098 := V9_0.other W2071 (Nat.ne_of_lt (by omega))
  refine own_return X2071 hx Bd.notSynchronized hG Bd.returns (hb hby d11_32) (by decide) (by decide) ?_
  rw [e2071]
  exact ⟨rfl, N2072, Z2073, ⟨E2074, F2075, F2076, F2077, F2078, F2079, F2080, F2081, F2082, F2083, F2084, F2085, F2086, F2087, F2088, V2089, V2090, V2091, V2092, V2093, V2094, V2095, V2096, V2097, V2098, V2071⟩⟩
def Q55 (Z : State) (a a1_ a2_ a3_ a4_ a5_ a6_ a7_ a8_ a9_ a10_ a11_ : Addr) (va vb vp : Int64) (h0 : Heap) (n0 : Nat) (v : Option Value) (h : Heap) (L : List Loc) : Prop := v = none ∧ Fr n0 L ∧ n0 ≤ h.size ∧ own_PE Z h a a1_ a2_ a3_ a4_ a5_ a6_ a7_ a8_ a9_ a10_ a11_ (0 : Int32) (0 : Int32) (2 : Int32) ((List.replicate 127 (0 : Int32)).set 0 (0 : Int32)) ((List.replicate 127 (0 : Int32)).set 0 (1 : Int32)) [(0 : Int32), (1 : Int32)] [(1 : Int32), (0 : Int32)] [(-1 : Int32), (-1 : Int32)] [(1 : Int32), (-1 : Int32)] [(2 : Int32), (1 : Int32)] [va, vb] [vp, vp] [(((0 : Int64) + vp) + (((0 : Int64) + vp) + (0 : Int64))), (((0 : Int64) + vp) + (0 : Int64))]
theorem ef_rm55 (m : MethodId) (x0 : Addr) (x1 : Int32) : entryFrame m #[(.ref x0), (.int x1)] 2 = mkF m 0 #[.val (.ref x0), .val (.int x1)] [] := by first | (simp [entryFrame, mkF, argsToLocals, Value.category, maxLocals]; done) | rfl
set_option maxRecDepth 65536 in
set_option maxHeartbeats 40000000 in
theorem rm55 (l : Launch) (Z : State) (a0 : Array Value) (hw : ∀ d ∈ tables_1, d.before a0 Z = true) (ws : List Jvm.Cond) (a a1_ a2_ a3_ a4_ a5_ a6_ a7_ a8_ a9_ a10_ a11_ : Addr) (va vb vp : Int64) (h0 : Heap) (n0 : Nat) (Z0 : n0 ≤ h0.size) (ga : n0 ≤ a) (hord : own_Or a a1_ a2_ a3_ a4_ a5_ a6_ a7_ a8_ a9_ a10_ a11_) (B : own_PE Z h0 a a1_ a2_ a3_ a4_ a5_ a6_ a7_ a8_ a9_ a10_ a11_ (0 : Int32) (0 : Int32) (2 : Int32) ((List.replicate 127 (0 : Int32)).set 0 (0 : Int32)) ((List.replicate 127 (0 : Int32)).set 0 (1 : Int32)) [(0 : Int32), (1 : Int32)] [(1 : Int32), (0 : Int32)] [(-1 : Int32), (-1 : Int32)] [(1 : Int32), (-1 : Int32)] [(1 : Int32), (1 : Int32)] [va, vb] [vp, vp] [(((0 : Int64) + vp) + (0 : Int64)), (((0 : Int64) + vp) + (0 : Int64))]) (hc : va = vb) :
    MetFree l own_y8 (head1 (Jvm.Cond.code own_y8 prog_49_method_27_code 2 none :: ws) ({ frames := 2, cells := 0, slots := 0, locals := 31 } : Room)) (fun aR U => aR = #[(.ref a), (.int (0 : Int32))] ∧ Z.Warmed39 U.vm ∧ U.heap = h0) (fun _ _ _ _ _ => True) (fun _ U o U' => ∃ v L, o = .returned v ∧ Q55 Z a a1_ a2_ a3_ a4_ a5_ a6_ a7_ a8_ a9_ a10_ a11_ va vb vp h0 n0 v U'.heap L ∧ FrameEnd U o U' L ({ frames := 2, cells := 0, slots := 0, locals := 31 } : Room).cells ({ frames := 2, cells := 0, slots := 0, locals := 31 } : Room).slots) := by
  refine MetFree.of_bodySF pf_8 hisR ?_
  intro p e s m args below meth c s₁ Bd hml0 hP hK
  obtain ⟨rfl, hZ, hhE⟩ := hP
  have hx := Bd.exec
  have hby := Bd.bytes
  have hml : c.maxLocals = 2 := hml0
  have hown : s.vm.findClass "com/example/equitide/equitide/policy/backfilling/AvlTree" = some m.cls := findClass_of_methodNamed Bd.named
  have hnm := (name_of_methodNamed Bd.named Bd.method).1
  have X0 : Stand p l e ({ frames := 2, cells := 0, slots := 0, locals := 31 } : Room) s m #[(.ref a), (.int (0 : Int32))] below meth c s₁ [] 0 0 := Stand.of_body Bd
  have e0 : s₁.heap = h0 := by rw [← hhE, Bd.state]; rfl
  have N0 := Fr.nil n0
  show own_Go p e below (own_Post s (Q55 Z a a1_ a2_ a3_ a4_ a5_ a6_ a7_ a8_ a9_ a10_ a11_ va vb vp h0 n0) ({ frames := 2, cells := 0, slots := 0, locals := 31 } : Room).cells ({ frames := 2, cells := 0, slots := 0, locals := 31 } : Room).slots) (s₁.setTop (entryFrame m #[(.ref a), (.int (0 : Int32))] 2))
  rw [ef_rm55]
  generalize hG : own_Post s (Q55 Z a a1_ a2_ a3_ a4_ a5_ a6_ a7_ a8_ a9_ a10_ a11_ va vb vp h0 n0) ({ frames := 2, cells := 0, slots := 0, locals := 31 } : Room).cells ({ frames := 2, cells := 0, slots := 0, locals := 31 } : Room).slots = G
  obtain ⟨o1, o2, o3, o4, o5, o6, o7, o8, o9, o10, o11⟩ := id hord
  obtain ⟨E0, F0_0, F1_0, F2_0, F3_0, F4_0, F5_0, F6_0, F7_0, F8_0, F9_0, F10_0, F11_0, F12_0, F13_0, V0_0, V1_0, V2_0, V3_0, V4_0, V5_0, V6_0, V7_0, V8_0, V9_0, V10_0⟩ := B
  refine own_aloadN X0 hx (hb hby d8_0) rfl rfl 1 rfl ?_
  refine own_getF X0 hx hZ hown (own_w hw 37 rfl) Via.refl e0 F10_0 (hb hby d8_1) 4 rfl (fun T2021 X2021 e2021 => ?_)
  refine own_iloadN X2021 hx (hb hby d8_4) rfl 5 rfl ?_
  refine own_iconst X2021 hx (hb hby d8_5) (1 : Int32) rfl 6 rfl ?_
  refine own_aloadN X2021 hx (hb hby d8_6) rfl rfl 7 rfl ?_
  refine own_aloadN X2021 hx (hb hby d8_7) rfl rfl 8 rfl ?_
  refine own_getF X2021 hx hZ hown (own_w hw 27 rfl) Via.refl e2021 F7_0 (hb hby d8_8) 11 rfl (fun T2022 X2022 e2022 => ?_)
  refine own_iloadN X2022 hx (hb hby d8_11) rfl 12 rfl ?_
  refine own_iaload X2022 hx hZ e2022 V4_0 0 rfl (-1 : Int32) rfl (hb hby d8_12) 13 rfl ?_
  refine own_callP X2022 hx hZ hown (own_w hw 74 rfl) (own_w hw 75 rfl) (own_w hw 76 rfl) (own_niS hZ (own_w hw 60 rfl) (own_w hw 59 rfl) rfl) (own_w hw 9 rfl) (own_w hw 77 rfl) (by decide) e2022 E0 (rm53 l Z a0 hw [] a a1_ a2_ a3_ a4_ a5_ a6_ a7_ a8_ a9_ a10_ a11_ va vb vp h0 n0 Z0 ga hord ⟨E0, F0_0, F1_0, F2_0, F3_0, F4_0, F5_0, F6_0, F7_0, F8_0, F9_0, F10_0, F11_0, F12_0, F13_0, V0_0, V1_0, V2_0, V3_0, V4_0, V5_0, V6_0, V7_0, V8_0, V9_0, V10_0⟩ hc) (by rw [hml]; rfl) pd_2 (argsL := [(.int (-1 : Int32))]) rfl (rest := [(.int (1 : Int32)), (.int (0 : Int32)), (.ref a8_)]) rfl (hb hby d8_13) 3 (Nat.le_of_eq rfl) (by decide) (by decide) (by decide) (by decide) 16 rfl (fun T2023 L2023 v2023 X2023 hQ2023 => ?_)
  obtain ⟨rfl, N2023, e2023⟩ := hQ2023
  have N2024 := Fr.app N0 N2023
  show own_Go p e below G (T2023.setTop (mkF m 16 #[.val (.ref a), .val (.int (0 : Int32))] [(.int (0 : Int32)), (.int (1 : Int32)), (.int (0 : Int32)), (.ref a8_)]))
  refine own_aloadN X2023 hx (hb hby d8_16) rfl rfl 17 rfl ?_
  refine own_aloadN X2023 hx (hb hby d8_17) rfl rfl 18 rfl ?_
  refine own_getF X2023 hx hZ hown (own_w hw 29 rfl) Via.refl e2023 F8_0 (hb hby d8_18) 21 rfl (fun T2025 X2025 e2025 => ?_)
  refine own_iloadN X2025 hx (hb hby d8_21) rfl 22 rfl ?_
  refine own_iaload X2025 hx hZ e2025 V5_0 0 rfl (1 : Int32) rfl (hb hby d8_22) 23 rfl ?_
  refine own_callP X2025 hx hZ hown (own_w hw 74 rfl) (own_w hw 75 rfl) (own_w hw 76 rfl) (own_niS hZ (own_w hw 60 rfl) (own_w hw 59 rfl) rfl) (own_w hw 9 rfl) (own_w hw 77 rfl) (by decide) e2025 E0 (rm54 l Z a0 hw [] a a1_ a2_ a3_ a4_ a5_ a6_ a7_ a8_ a9_ a10_ a11_ va vb vp h0 n0 Z0 ga hord ⟨E0, F0_0, F1_0, F2_0, F3_0, F4_0, F5_0, F6_0, F7_0, F8_0, F9_0, F10_0, F11_0, F12_0, F13_0, V0_0, V1_0, V2_0, V3_0, V4_0, V5_0, V6_0, V7_0, V8_0, V9_0, V10_0⟩ hc) (by rw [hml]; rfl) pd_2 (argsL := [(.int (1 : Int32))]) rfl (rest := [(.int (0 : Int32)), (.int (1 : Int32)), (.int (0 : Int32)), (.ref a8_)]) rfl (hb hby d8_23) 4 (Nat.le_of_eq rfl) (by decide) (by decide) (by decide) (by decide) 26 rfl (fun T2026 L2026 v2026 X2026 hQ2026 => ?_)
  obtain ⟨rfl, N2026, e2026⟩ := hQ2026
  have N2027 := Fr.app N2024 N2026
  show own_Go p e below G (T2026.setTop (mkF m 26 #[.val (.ref a), .val (.int (0 : Int32))] [(.int (1 : Int32)), (.int (0 : Int32)), (.int (1 : Int32)), (.int (0 : Int32)), (.ref a8_)]))
  refine own_callS X2026 hx hZ hown (own_w hw 78 rfl) (own_w hw 79 rfl) (own_w hw 80 rfl) (own_w hw 81 rfl) (by decide) e2026 (rmMax l Z a0 hw [] (0 : Int32) (1 : Int32) h0 n0) (by rw [hml]; rfl) pd_3 (argsL := [(.int (0 : Int32)), (.int (1 : Int32))]) rfl (rest := [(.int (1 : Int32)), (.int (0 : Int32)), (.ref a8_)]) rfl (hb hby d8_26) 3 (Nat.le_of_eq rfl) (by decide) (by decide) (by decide) (by decide) 29 rfl (fun T2028 L2028 v2028 X2028 hQ2028 => ?_)
  obtain ⟨rfl, N2028, e2028⟩ := hQ2028
  have N2029 := Fr.app N2027 N2028
  show own_Go p e below G (T2028.setTop (mkF m 29 #[.val (.ref a), .val (.int (0 : Int32))] [(.int (own_max (0 : Int32) (1 : Int32))), (.int (1 : Int32)), (.int (0 : Int32)), (.ref a8_)]))
  rw [show own_max (0 : Int32) (1 : Int32) = (1 : Int32) from rfl]
  refine own_iadd X2028 hx (hb hby d8_29) 30 rfl ?_
  show own_Go p e below G (T2028.setTop (mkF m 30 #[.val (.ref a), .val (.int (0 : Int32))] [(.int (2 : Int32)), (.int (0 : Int32)), (.ref a8_)]))
  refine own_i2b X2028 hx (hb hby d8_30) 31 rfl ?_
  show own_Go p e below G (T2028.setTop (mkF m 31 #[.val (.ref a), .val (.int (0 : Int32))] [(.int (2 : Int32)), (.int (0 : Int32)), (.ref a8_)]))
  refine own_bastore X2028 hx hZ e2028 V7_0 0 rfl (by simp) (hb hby d8_31) 32 rfl (fun T2030 h2030 X2030 e2030 W2030 V2030 => ?_)
  rw [show [(1 : Int32), (1 : Int32)].set 0 ((2 : Int32).toInt8.toInt32) = [(2 : Int32), (1 : Int32)] from rfl] at V2030
  have N2031 := Fr.snoc X2030 N2029 (by omega)
  have Z2032 : n0 ≤ h2030.size := by rw [W2030.size]; exact Z0
  have E2033 := E0.wr W2030
  have F2034 := F0_0.other W2030 (Or.inl (Nat.ne_of_lt (by omega)))
  have F2035 := F1_0.other W2030 (Or.inl (Nat.ne_of_lt (by omega)))
  have F2036 := F2_0.other W2030 (Or.inl (Nat.ne_of_lt (by omega)))
  have F2037 := F3_0.other W2030 (Or.inl (Nat.ne_of_lt (by omega)))
  have F2038 := F4_0.other W2030 (Or.inl (Nat.ne_of_lt (by omega)))
  have F2039 := F5_0.other W2030 (Or.inl (Nat.ne_of_lt (by omega)))
  have F2040 := F6_0.other W2030 (Or.inl (Nat.ne_of_lt (by omega)))
  have F2041 := F7_0.other W2030 (Or.inl (Nat.ne_of_lt (by omega)))
  have F2042 := F8_0.other W2030 (Or.inl (Nat.ne_of_lt (by omega)))
  have F2043 := F9_0.other W2030 (Or.inl (Nat.ne_of_lt (by omega)))
  have F2044 := F10_0.other W2030 (Or.inl (Nat.ne_of_lt (by omega)))
  have F2045 := F11_0.other W2030 (Or.inl (Nat.ne_of_lt (by omega)))
  have F2046 := F12_0.other W2030 (Or.inl (Nat.ne_of_lt (by omega)))
  have F2047 := F13_0.other W2030 (Or.inl (Nat.ne_of_lt (by omega)))
  have V2048 := V0_0.other W2030 (Nat.ne_of_lt (by omega))
  have V2049 := V1_0.other W2030 (Nat.ne_of_lt (by omega))
  have V2050 := V2_0.other W2030 (Nat.ne_of_lt (by omega))
  have V2051 := V3_0.other W2030 (Nat.ne_of_lt (by omega))
  have V2052 := V4_0.other W2030 (Nat.ne_of_lt (by omega))
  have V2053 := V5_0.other W2030 (Nat.ne_of_lt (by omega))
  have V2054 := V6_0.other W2030 (Nat.ne_of_lt (by omega))
  have V2055 := V8_0.other W2030 (Ne.symm (Nat.ne_of_lt (by omega)))
  have V2056 := V9_0.other W2030 (Ne.symm (Nat.ne_of_lt (by omega)))
  have V2057 := V10_0.other W2030 (Ne.symm (Nat.ne_of_lt (by omega)))
  refine own_aloadN X2030 hx (hb hby d8_32) rfl rfl 33 rfl ?_
  refine own_iloadN X2030 hx (hb hby d8_33) rfl 34 rfl ?_
  refine own_callV X2030 hx hZ hown (own_w hw 82 rfl) (own_w hw 83 rfl) (own_w hw 84 rfl) (own_nfS (own_niS hZ (own_w hw 60 rfl) (own_w hw 59 rfl) rfl)) (own_w hw 85 rfl) (own_w hw 2 rfl) (own_w hw 86 rfl) (by decide) e2030 E2033 (rm56 l Z a0 hw [] a a1_ a2_ a3_ a4_ a5_ a6_ a7_ a8_ a9_ a10_ a11_ va vb vp h2030 n0 Z2032 ga hord ⟨E2033, F2034, F2035, F2036, F2037, F2038, F2039, F2040, F2041, F2042, F2043, F2044, F2045, F2046, F2047, V2048, V2049, V2050, V2051, V2052, V2053, V2054, V2030, V2055, V2056, V2057⟩ hc) (by rw [hml]; rfl) pd_5 (argsL := [(.int (0 : Int32))]) rfl (rest := []) rfl (hb hby d8_34) 0 (Nat.le_of_eq rfl) (by decide) (by decide) (by decide) (by decide) 37 rfl (fun T2099 L2099 v2099 X2099 hQ2099 => ?_)
  obtain ⟨rfl, N2099, Z2099, B2099⟩ := hQ2099
  have N2100 := Fr.app N2031 N2099
  obtain ⟨E2099, F0_2099, F1_2099, F2_2099, F3_2099, F4_2099, F5_2099, F6_2099, F7_2099, F8_2099, F9_2099, F10_2099, F11_2099, F12_2099, F13_2099, V0_2099, V1_2099, V2_2099, V3_2099, V4_2099, V5_2099, V6_2099, V7_2099, V8_2099, V9_2099, V10_2099⟩ := B2099
  show own_Go p e below G (T2099.setTop (mkF m 37 #[.val (.ref a), .val (.int (0 : Int32))] []))
  refine own_return X2099 hx Bd.notSynchronized hG Bd.returns (hb hby d8_37) (by decide) (by decide) ?_
  skip
  exact ⟨rfl, N2100, Z2099, ⟨E2099, F0_2099, F1_2099, F2_2099, F3_2099, F4_2099, F5_2099, F6_2099, F7_2099, F8_2099, F9_2099, F10_2099, F11_2099, F12_2099, F13_2099, V0_2099, V1_2099, V2_2099, V3_2099, V4_2099, V5_2099, V6_2099, V7_2099, V8_2099, V9_2099, V10_2099⟩⟩
def Q52 (Z : State) (a a1_ a2_ a3_ a4_ a5_ a6_ a7_ a8_ a9_ a10_ a11_ : Addr) (va vb vp : Int64) (h0 : Heap) (n0 : Nat) (v : Option Value) (h : Heap) (L : List Loc) : Prop := v = some (.int (0 : Int32)) ∧ Fr n0 L ∧ n0 ≤ h.size ∧ own_PE Z h a a1_ a2_ a3_ a4_ a5_ a6_ a7_ a8_ a9_ a10_ a11_ (0 : Int32) (0 : Int32) (2 : Int32) ((List.replicate 127 (0 : Int32)).set 0 (0 : Int32)) ((List.replicate 127 (0 : Int32)).set 0 (1 : Int32)) [(0 : Int32), (1 : Int32)] [(1 : Int32), (0 : Int32)] [(-1 : Int32), (-1 : Int32)] [(1 : Int32), (-1 : Int32)] [(2 : Int32), (1 : Int32)] [va, vb] [vp, vp] [(((0 : Int64) + vp) + (((0 : Int64) + vp) + (0 : Int64))), (((0 : Int64) + vp) + (0 : Int64))]
theorem ef_rm52 (m : MethodId) (x0 : Addr) (x1 : Int32) : entryFrame m #[(.ref x0), (.int x1)] 5 = mkF m 0 #[.val (.ref x0), .val (.int x1), .unset, .unset, .unset] [] := by first | (simp [entryFrame, mkF, argsToLocals, Value.category, maxLocals]; done) | rfl
set_option maxRecDepth 65536 in
set_option maxHeartbeats 40000000 in
theorem rm52 (l : Launch) (Z : State) (a0 : Array Value) (hw : ∀ d ∈ tables_1, d.before a0 Z = true) (ws : List Jvm.Cond) (a a1_ a2_ a3_ a4_ a5_ a6_ a7_ a8_ a9_ a10_ a11_ : Addr) (va vb vp : Int64) (h0 : Heap) (n0 : Nat) (Z0 : n0 ≤ h0.size) (ga : n0 ≤ a) (hord : own_Or a a1_ a2_ a3_ a4_ a5_ a6_ a7_ a8_ a9_ a10_ a11_) (B : own_PE Z h0 a a1_ a2_ a3_ a4_ a5_ a6_ a7_ a8_ a9_ a10_ a11_ (0 : Int32) (0 : Int32) (2 : Int32) ((List.replicate 127 (0 : Int32)).set 0 (0 : Int32)) ((List.replicate 127 (0 : Int32)).set 0 (1 : Int32)) [(0 : Int32), (1 : Int32)] [(1 : Int32), (0 : Int32)] [(-1 : Int32), (-1 : Int32)] [(1 : Int32), (-1 : Int32)] [(1 : Int32), (1 : Int32)] [va, vb] [vp, vp] [(((0 : Int64) + vp) + (0 : Int64)), (((0 : Int64) + vp) + (0 : Int64))]) (hc : va = vb) :
    MetFree l own_y18 (head1 (Jvm.Cond.code own_y18 prog_49_method_25_code 5 (some .int) :: ws) ({ frames := 3, cells := 0, slots := 0, locals := 44 } : Room)) (fun aR U => aR = #[(.ref a), (.int (0 : Int32))] ∧ Z.Warmed39 U.vm ∧ U.heap = h0) (fun _ _ _ _ _ => True) (fun _ U o U' => ∃ v L, o = .returned v ∧ Q52 Z a a1_ a2_ a3_ a4_ a5_ a6_ a7_ a8_ a9_ a10_ a11_ va vb vp h0 n0 v U'.heap L ∧ FrameEnd U o U' L ({ frames := 3, cells := 0, slots := 0, locals := 44 } : Room).cells ({ frames := 3, cells := 0, slots := 0, locals := 44 } : Room).slots) := by
  refine MetFree.of_bodySF pf_18 hisR ?_
  intro p e s m args below meth c s₁ Bd hml0 hP hK
  obtain ⟨rfl, hZ, hhE⟩ := hP
  have hx := Bd.exec
  have hby := Bd.bytes
  have hml : c.maxLocals = 5 := hml0
  have hown : s.vm.findClass "com/example/equitide/equitide/policy/backfilling/AvlTree" = some m.cls := findClass_of_methodNamed Bd.named
  have hnm := (name_of_methodNamed Bd.named Bd.method).1
  have X0 : Stand p l e ({ frames := 3, cells := 0, slots := 0, locals := 44 } : Room) s m #[(.ref a), (.int (0 : Int32))] below meth c s₁ [] 0 0 := Stand.of_body Bd
  have e0 : s₁.heap = h0 := by rw [← hhE, Bd.state]; rfl
  have N0 := Fr.nil n0
  show own_Go p e below (own_Post s (Q52 Z a a1_ a2_ a3_ a4_ a5_ a6_ a7_ a8_ a9_ a10_ a11_ va vb vp h0 n0) ({ frames := 3, cells := 0, slots := 0, locals := 44 } : Room).cells ({ frames := 3, cells := 0, slots := 0, locals := 44 } : Room).slots) (s₁.setTop (entryFrame m #[(.ref a), (.int (0 : Int32))] 5))
  rw [ef_rm52]
  generalize hG : own_Post s (Q52 Z a a1_ a2_ a3_ a4_ a5_ a6_ a7_ a8_ a9_ a10_ a11_ va vb vp h0 n0) ({ frames := 3, cells := 0, slots := 0, locals := 44 } : Room).cells ({ frames := 3, cells := 0, slots := 0, locals := 44 } : Room).slots = G
  obtain ⟨o1, o2, o3, o4, o5, o6, o7, o8, o9, o10, o11⟩ := id hord
  obtain ⟨E0, F0_0, F1_0, F2_0, F3_0, F4_0, F5_0, F6_0, F7_0, F8_0, F9_0, F10_0, F11_0, F12_0, F13_0, V0_0, V1_0, V2_0, V3_0, V4_0, V5_0, V6_0, V7_0, V8_0, V9_0, V10_0⟩ := B
  refine own_aloadN X0 hx (hb hby d18_0) rfl rfl 1 rfl ?_
  refine own_aloadN X0 hx (hb hby d18_1) rfl rfl 2 rfl ?_
  refine own_getF X0 hx hZ hown (own_w hw 27 rfl) Via.refl e0 F7_0 (hb hby d18_2) 5 rfl (fun T2014 X2014 e2014 => ?_)
  refine own_iloadN X2014 hx (hb hby d18_5) rfl 6 rfl ?_
  refine own_iaload X2014 hx hZ e2014 V4_0 0 rfl (-1 : Int32) rfl (hb hby d18_6) 7 rfl ?_
  refine own_callP X2014 hx hZ hown (own_w hw 74 rfl) (own_w hw 75 rfl) (own_w hw 76 rfl) (own_niS hZ (own_w hw 60 rfl) (own_w hw 59 rfl) rfl) (own_w hw 9 rfl) (own_w hw 77 rfl) (by decide) e2014 E0 (rm53 l Z a0 hw [] a a1_ a2_ a3_ a4_ a5_ a6_ a7_ a8_ a9_ a10_ a11_ va vb vp h0 n0 Z0 ga hord ⟨E0, F0_0, F1_0, F2_0, F3_0, F4_0, F5_0, F6_0, F7_0, F8_0, F9_0, F10_0, F11_0, F12_0, F13_0, V0_0, V1_0, V2_0, V3_0, V4_0, V5_0, V6_0, V7_0, V8_0, V9_0, V10_0⟩ hc) (by rw [hml]; rfl) pd_2 (argsL := [(.int (-1 : Int32))]) rfl (rest := []) rfl (hb hby d18_7) 0 (Nat.le_of_eq rfl) (by decide) (by decide) (by decide) (by decide) 10 rfl (fun T2015 L2015 v2015 X2015 hQ2015 => ?_)
  obtain ⟨rfl, N2015, e2015⟩ := hQ2015
  have N2016 := Fr.app N0 N2015
  show own_Go p e below G (T2015.setTop (mkF m 10 #[.val (.ref a), .val (.int (0 : Int32)), .unset, .unset, .unset] [(.int (0 : Int32))]))
  refine own_aloadN X2015 hx (hb hby d18_10) rfl rfl 11 rfl ?_
  refine own_aloadN X2015 hx (hb hby d18_11) rfl rfl 12 rfl ?_
  refine own_getF X2015 hx hZ hown (own_w hw 29 rfl) Via.refl e2015 F8_0 (hb hby d18_12) 15 rfl (fun T2017 X2017 e2017 => ?_)
  refine own_iloadN X2017 hx (hb hby d18_15) rfl 16 rfl ?_
  refine own_iaload X2017 hx hZ e2017 V5_0 0 rfl (1 : Int32) rfl (hb hby d18_16) 17 rfl ?_
  refine own_callP X2017 hx hZ hown (own_w hw 74 rfl) (own_w hw 75 rfl) (own_w hw 76 rfl) (own_niS hZ (own_w hw 60 rfl) (own_w hw 59 rfl) rfl) (own_w hw 9 rfl) (own_w hw 77 rfl) (by decide) e2017 E0 (rm54 l Z a0 hw [] a a1_ a2_ a3_ a4_ a5_ a6_ a7_ a8_ a9_ a10_ a11_ va vb vp h0 n0 Z0 ga hord ⟨E0, F0_0, F1_0, F2_0, F3_0, F4_0, F5_0, F6_0, F7_0, F8_0, F9_0, F10_0, F11_0, F12_0, F13_0, V0_0, V1_0, V2_0, V3_0, V4_0, V5_0, V6_0, V7_0, V8_0, V9_0, V10_0⟩ hc) (by rw [hml]; rfl) pd_2 (argsL := [(.int (1 : Int32))]) rfl (rest := [(.int (0 : Int32))]) rfl (hb hby d18_17) 1 (Nat.le_of_eq rfl) (by decide) (by decide) (by decide) (by decide) 20 rfl (fun T2019 L2019 v2019 X2019 hQ2019 => ?_)
  obtain ⟨rfl, N2019, e2019⟩ := hQ2019
  have N2020 := Fr.app N2016 N2019
  show own_Go p e below G (T2019.setTop (mkF m 20 #[.val (.ref a), .val (.int (0 : Int32)), .unset, .unset, .unset] [(.int (1 : Int32)), (.int (0 : Int32))]))
  refine own_isub X2019 hx (hb hby d18_20) 21 rfl ?_
  show own_Go p e below G (T2019.setTop (mkF m 21 #[.val (.ref a), .val (.int (0 : Int32)), .unset, .unset, .unset] [(.int (-1 : Int32))]))
  refine own_istoreN X2019 hx (hb hby d18_21) #[.val (.ref a), .val (.int (0 : Int32)), .val (.int (-1 : Int32)), .unset, .unset] rfl 22 rfl ?_
  refine own_iloadN X2019 hx (hb hby d18_22) rfl 23 rfl ?_
  refine own_iconst X2019 hx (hb hby d18_23) (1 : Int32) rfl 24 rfl ?_
  refine own_icmpN X2019 hx (hb hby d18_24) (flt (by decide)).2.2.1 27 rfl ?_
  refine own_iloadN X2019 hx (hb hby d18_27) rfl 28 rfl ?_
  refine own_iconst X2019 hx (hb hby d18_28) (-1 : Int32) rfl 29 rfl ?_
  refine own_icmpY X2019 hx (hb hby d18_29) (flt (by decide)).2.1 107 ⟨by decide, by decide⟩ ?_
  refine own_aloadN X2019 hx (hb hby d18_107) rfl rfl 108 rfl ?_
  refine own_iloadN X2019 hx (hb hby d18_108) rfl 109 rfl ?_
  refine own_callP X2019 hx hZ hown (own_w hw 70 rfl) (own_w hw 71 rfl) (own_w hw 72 rfl) (own_niS hZ (own_w hw 60 rfl) (own_w hw 59 rfl) rfl) (own_w hw 9 rfl) (own_w hw 73 rfl) (by decide) e2019 E0 (rm55 l Z a0 hw [] a a1_ a2_ a3_ a4_ a5_ a6_ a7_ a8_ a9_ a10_ a11_ va vb vp h0 n0 Z0 ga hord ⟨E0, F0_0, F1_0, F2_0, F3_0, F4_0, F5_0, F6_0, F7_0, F8_0, F9_0, F10_0, F11_0, F12_0, F13_0, V0_0, V1_0, V2_0, V3_0, V4_0, V5_0, V6_0, V7_0, V8_0, V9_0, V10_0⟩ hc) (by rw [hml]; rfl) pd_5 (argsL := [(.int (0 : Int32))]) rfl (rest := []) rfl (hb hby d18_109) 0 (Nat.le_of_eq rfl) (by decide) (by decide) (by decide) (by decide) 112 rfl (fun T2101 L2101 v2101 X2101 hQ2101 => ?_)
  obtain ⟨rfl, N2101, Z2101, B2101⟩ := hQ2101
  have N2102 := Fr.app N2020 N2101
  obtain ⟨E2101, F0_2101, F1_2101, F2_2101, F3_2101, F4_2101, F5_2101, F6_2101, F7_2101, F8_2101, F9_2101, F10_2101, F11_2101, F12_2101, F13_2101, V0_2101, V1_2101, V2_2101, V3_2101, V4_2101, V5_2101, V6_2101, V7_2101, V8_2101, V9_2101, V10_2101⟩ := B2101
  show own_Go p e below G (T2101.setTop (mkF m 112 #[.val (.ref a), .val (.int (0 : Int32)), .val (.int (-1 : Int32)), .unset, .unset] []))
  refine own_iloadN X2101 hx (hb hby d18_112) rfl 113 rfl ?_
  refine own_ireturn X2101 hx Bd.notSynchronized hG Bd.returns (hb hby d18_113) (by decide) (by decide) ?_
  skip
  exact ⟨rfl, N2102, Z2101, ⟨E2101, F0_2101, F1_2101, F2_2101, F3_2101, F4_2101, F5_2101, F6_2101, F7_2101, F8_2101, F9_2101, F10_2101, F11_2101, F12_2101, F13_2101, V0_2101, V1_2101, V2_2101, V3_2101, V4_2101, V5_2101, V6_2101, V7_2101, V8_2101, V9_2101, V10_2101⟩⟩
def Q51 (Z : State) (a a1_ a2_ a3_ a4_ a5_ a6_ a7_ a8_ a9_ a10_ a11_ : Addr) (va vb vp : Int64) (h0 : Heap) (n0 : Nat) (v : Option Value) (h : Heap) (L : List Loc) : Prop := v = some (.int (0 : Int32)) ∧ Fr n0 L ∧ n0 ≤ h.size ∧ own_PE Z h a a1_ a2_ a3_ a4_ a5_ a6_ a7_ a8_ a9_ a10_ a11_ (0 : Int32) (0 : Int32) (2 : Int32) ((List.replicate 127 (0 : Int32)).set 0 (0 : Int32)) ((List.replicate 127 (0 : Int32)).set 0 (1 : Int32)) [(0 : Int32), (1 : Int32)] [(1 : Int32), (0 : Int32)] [(-1 : Int32), (-1 : Int32)] [(1 : Int32), (-1 : Int32)] [(2 : Int32), (1 : Int32)] [va, vb] [vp, vp] [(((0 : Int64) + vp) + (((0 : Int64) + vp) + (0 : Int64))), (((0 : Int64) + vp) + (0 : Int64))]
theorem ef_rm51 (m : MethodId) (x0 : Addr) (x1 : Int32) (x2 : Int32) (x3 : Int32) : entryFrame m #[(.ref x0), (.int x1), (.int x2), (.int x3)] 6 = mkF m 0 #[.val (.ref x0), .val (.int x1), .val (.int x2), .val (.int x3), .unset, .unset] [] := by first | (simp [entryFrame, mkF, argsToLocals, Value.category, maxLocals]; done) | rfl
set_option maxRecDepth 65536 in
set_option maxHeartbeats 40000000 in
theorem rm51 (l : Launch) (Z : State) (a0 : Array Value) (hw : ∀ d ∈ tables_1, d.before a0 Z = true) (ws : List Jvm.Cond) (a a1_ a2_ a3_ a4_ a5_ a6_ a7_ a8_ a9_ a10_ a11_ : Addr) (va vb vp : Int64) (h0 : Heap) (n0 : Nat) (Z0 : n0 ≤ h0.size) (ga : n0 ≤ a) (hord : own_Or a a1_ a2_ a3_ a4_ a5_ a6_ a7_ a8_ a9_ a10_ a11_) (B : own_PE Z h0 a a1_ a2_ a3_ a4_ a5_ a6_ a7_ a8_ a9_ a10_ a11_ (0 : Int32) (0 : Int32) (2 : Int32) ((List.replicate 127 (0 : Int32)).set 0 (0 : Int32)) ((List.replicate 127 (0 : Int32)).set 0 (1 : Int32)) [(0 : Int32), (1 : Int32)] [(1 : Int32), (0 : Int32)] [(-1 : Int32), (-1 : Int32)] [(-1 : Int32), (-1 : Int32)] [(1 : Int32), (1 : Int32)] [va, vb] [vp, vp] [(((0 : Int64) + vp) + (0 : Int64)), (((0 : Int64) + vp) + (0 : Int64))]) (hc : va = vb) :
    MetFree l own_y16 (head1 (Jvm.Cond.code own_y16 prog_49_method_23_code 6 (some .int) :: ws) ({ frames := 4, cells := 0, slots := 0, locals := 60 } : Room)) (fun aR U => aR = #[(.ref a), (.int (0 : Int32)), (.int (1 : Int32)), (.int (1 : Int32))] ∧ Z.Warmed39 U.vm ∧ U.heap = h0) (fun _ _ _ _ _ => True) (fun _ U o U' => ∃ v L, o = .returned v ∧ Q51 Z a a1_ a2_ a3_ a4_ a5_ a6_ a7_ a8_ a9_ a10_ a11_ va vb vp h0 n0 v U'.heap L ∧ FrameEnd U o U' L ({ frames := 4, cells := 0, slots := 0, locals := 60 } : Room).cells ({ frames := 4, cells := 0, slots := 0, locals := 60 } : Room).slots) := by
  refine MetFree.of_bodySF pf_16 hisR ?_
  intro p e s m args below meth c s₁ Bd hml0 hP hK
  obtain ⟨rfl, hZ, hhE⟩ := hP
  have hx := Bd.exec
  have hby := Bd.bytes
  have hml : c.maxLocals = 6 := hml0
  have hown : s.vm.findClass "com/example/equitide/equitide/policy/backfilling/AvlTree" = some m.cls := findClass_of_methodNamed Bd.named
  have hnm := (name_of_methodNamed Bd.named Bd.method).1
  have X0 : Stand p l e ({ frames := 4, cells := 0, slots := 0, locals := 60 } : Room) s m #[(.ref a), (.int (0 : Int32)), (.int (1 : Int32)), (.int (1 : Int32))] below meth c s₁ [] 0 0 := Stand.of_body Bd
  have e0 : s₁.heap = h0 := by rw [← hhE, Bd.state]; rfl
  have N0 := Fr.nil n0
  show own_Go p e below (own_Post s (Q51 Z a a1_ a2_ a3_ a4_ a5_ a6_ a7_ a8_ a9_ a10_ a11_ va vb vp h0 n0) ({ frames := 4, cells := 0, slots := 0, locals := 60 } : Room).cells ({ frames := 4, cells := 0, slots := 0, locals := 60 } : Room).slots) (s₁.setTop (entryFrame m #[(.ref a), (.int (0 : Int32)), (.int (1 : Int32)), (.int (1 : Int32))] 6))
  rw [ef_rm51]
  generalize hG : own_Post s (Q51 Z a a1_ a2_ a3_ a4_ a5_ a6_ a7_ a8_ a9_ a10_ a11_ va vb vp h0 n0) ({ frames := 4, cells := 0, slots := 0, locals := 60 } : Room).cells ({ frames := 4, cells := 0, slots := 0, locals := 60 } : Room).slots = G
  obtain ⟨o1, o2, o3, o4, o5, o6, o7, o8, o9, o10, o11⟩ := id hord
  obtain ⟨E0, F0_0, F1_0, F2_0, F3_0, F4_0, F5_0, F6_0, F7_0, F8_0, F9_0, F10_0, F11_0, F12_0, F13_0, V0_0, V1_0, V2_0, V3_0, V4_0, V5_0, V6_0, V7_0, V8_0, V9_0, V10_0⟩ := B
  refine own_iloadN X0 hx (hb hby d16_0) rfl 1 rfl ?_
  refine own_istore X0 hx (hb hby d16_1) #[.val (.ref a), .val (.int (0 : Int32)), .val (.int (1 : Int32)), .val (.int (1 : Int32)), .val (.int (1 : Int32)), .unset] rfl 3 rfl ?_
  refine own_iloadN X0 hx (hb hby d16_3) rfl 4 rfl ?_
  refine own_istore X0 hx (hb hby d16_4) #[.val (.ref a), .val (.int (0 : Int32)), .val (.int (1 : Int32)), .val (.int (1 : Int32)), .val (.int (1 : Int32)), .val (.int (1 : Int32))] rfl 6 rfl ?_
  refine own_iload X0 hx (hb hby d16_6) rfl 8 rfl ?_
  refine own_iloadN X0 hx (hb hby d16_8) rfl 9 rfl ?_
  refine own_icmpN X0 hx (hb hby d16_9) (tlt (by decide)).2.2.2 12 rfl ?_
  refine own_aloadN X0 hx (hb hby d16_12) rfl rfl 13 rfl ?_
  refine own_getF X0 hx hZ hown (own_w hw 34 rfl) Via.refl e0 F9_0 (hb hby d16_13) 16 rfl (fun T1982 X1982 e1982 => ?_)
  refine own_aloadN X1982 hx (hb hby d16_16) rfl rfl 17 rfl ?_
  refine own_getF X1982 hx hZ hown (own_w hw 19 rfl) Via.refl e1982 F4_0 (hb hby d16_17) 20 rfl (fun T1983 X1983 e1983 => ?_)
  refine own_iload X1983 hx (hb hby d16_20) rfl 22 rfl ?_
  refine own_iconst X1983 hx (hb hby d16_22) (1 : Int32) rfl 23 rfl ?_
  refine own_isub X1983 hx (hb hby d16_23) 24 rfl ?_
  show own_Go p e below G (T1983.setTop (mkF m 24 #[.val (.ref a), .val (.int (0 : Int32)), .val (.int (1 : Int32)), .val (.int (1 : Int32)), .val (.int (1 : Int32)), .val (.int (1 : Int32))] [(.int (0 : Int32)), (.ref a2_), (.ref a7_)]))
  refine own_iaload X1983 hx hZ e1983 V1_0 0 rfl (1 : Int32) rfl (hb hby d16_24) 25 rfl ?_
  obtain ⟨clk, Ak, Sk, -⟩ := id V6_0
  refine own_aaload X1983 hx hZ e1983 Ak rfl (v := .ref a6_) (by rw [Sk]; show ¬ ((1 : Int32) < 0 ∨ 2 ≤ Int32.toNatClampNeg 1); decide) (by rw [Sk]; rfl) (hb hby d16_25) 26 rfl ?_
  refine own_aloadN X1983 hx (hb hby d16_26) rfl rfl 27 rfl ?_
  refine own_getF X1983 hx hZ hown (own_w hw 17 rfl) Via.refl e1983 F3_0 (hb hby d16_27) 30 rfl (fun T1984 X1984 e1984 => ?_)
  refine own_iload X1984 hx (hb hby d16_30) rfl 32 rfl ?_
  refine own_iconst X1984 hx (hb hby d16_32) (1 : Int32) rfl 33 rfl ?_
  refine own_isub X1984 hx (hb hby d16_33) 34 rfl ?_
  show own_Go p e below G (T1984.setTop (mkF m 34 #[.val (.ref a), .val (.int (0 : Int32)), .val (.int (1 : Int32)), .val (.int (1 : Int32)), .val (.int (1 : Int32)), .val (.int (1 : Int32))] [(.int (0 : Int32)), (.ref a1_), (.ref a6_)]))
  refine own_iaload X1984 hx hZ e1984 V0_0 0 rfl (0 : Int32) rfl (hb hby d16_34) 35 rfl ?_
  refine own_iload X1984 hx (hb hby d16_35) rfl 37 rfl ?_
  refine own_iastore X1984 hx hZ e1984 V5_0 0 rfl (by simp) (hb hby d16_37) 38 rfl (fun T1985 h1985 X1985 e1985 W1985 V1985 => ?_)
  rw [show [(-1 : Int32), (-1 : Int32)].set 0 (1 : Int32) = [(1 : Int32), (-1 : Int32)] from rfl] at V1985
  have N1986 := Fr.snoc X1985 N0 (by omega)
  have Z1987 : n0 ≤ h1985.size := by rw [W1985.size]; exact Z0
  have E1988 := E0.wr W1985
  have F1989 := F0_0.other W1985 (Or.inl (Nat.ne_of_lt (by omega)))
  have F1990 := F1_0.other W1985 (Or.inl (Nat.ne_of_lt (by omega)))
  have F1991 := F2_0.other W1985 (Or.inl (Nat.ne_of_lt (by omega)))
  have F1992 := F3_0.other W1985 (Or.inl (Nat.ne_of_lt (by omega)))
  have F1993 := F4_0.other W1985 (Or.inl (Nat.ne_of_lt (by omega)))
  have F1994 := F5_0.other W1985 (Or.inl (Nat.ne_of_lt (by omega)))
  have F1995 := F6_0.other W1985 (Or.inl (Nat.ne_of_lt (by omega)))
  have F1996 := F7_0.other W1985 (Or.inl (Nat.ne_of_lt (by omega)))
  have F1997 := F8_0.other W1985 (Or.inl (Nat.ne_of_lt (by omega)))
  have F1998 := F9_0.other W1985 (Or.inl (Nat.ne_of_lt (by omega)))
  have F1999 := F10_0.other W1985 (Or.inl (Nat.ne_of_lt (by omega)))
  have F2000 := F11_0.other W1985 (Or.inl (Nat.ne_of_lt (by omega)))
  have F2001 := F12_0.other W1985 (Or.inl (Nat.ne_of_lt (by omega)))
  have F2002 := F13_0.other W1985 (Or.inl (Nat.ne_of_lt (by omega)))
  have V2003 := V0_0.other W1985 (Nat.ne_of_lt (by omega))
  have V2004 := V1_0.other W1985 (Nat.ne_of_lt (by omega))
  have V2005 := V2_0.other W1985 (Nat.ne_of_lt (by omega))
  have V2006 := V3_0.other W1985 (Nat.ne_of_lt (by omega))
  have V2007 := V4_0.other W1985 (Nat.ne_of_lt (by omega))
  have V2008 := V6_0.other W1985 (Ne.symm (Nat.ne_of_lt (by omega)))
  have V2009 := V7_0.other W1985 (Ne.symm (Nat.ne_of_lt (by omega)))
  have V2010 := V8_0.other W1985 (Ne.symm (Nat.ne_of_lt (by omega)))
  have V2011 := V9_0.other W1985 (Ne.symm (Nat.ne_of_lt (by omega)))
  have V2012 := V10_0.other W1985 (Ne.symm (Nat.ne_of_lt (by omega)))
  refine own_aloadN X1985 hx (hb hby d16_38) rfl rfl 39 rfl ?_
  refine own_aloadN X1985 hx (hb hby d16_39) rfl rfl 40 rfl ?_
  refine own_getF X1985 hx hZ hown (own_w hw 17 rfl) Via.refl e1985 F1992 (hb hby d16_40) 43 rfl (fun T2013 X2013 e2013 => ?_)
  refine own_iload X2013 hx (hb hby d16_43) rfl 45 rfl ?_
  refine own_iconst X2013 hx (hb hby d16_45) (1 : Int32) rfl 46 rfl ?_
  refine own_isub X2013 hx (hb hby d16_46) 47 rfl ?_
  show own_Go p e below G (T2013.setTop (mkF m 47 #[.val (.ref a), .val (.int (0 : Int32)), .val (.int (1 : Int32)), .val (.int (1 : Int32)), .val (.int (1 : Int32)), .val (.int (1 : Int32))] [(.int (0 : Int32)), (.ref a1_), (.ref a)]))
  refine own_iaload X2013 hx hZ e2013 V2003 0 rfl (0 : Int32) rfl (hb hby d16_47) 48 rfl ?_
  refine own_callP X2013 hx hZ hown (own_w hw 116 rfl) (own_w hw 117 rfl) (own_w hw 118 rfl) (own_niS hZ (own_w hw 60 rfl) (own_w hw 59 rfl) rfl) (own_w hw 9 rfl) (own_w hw 119 rfl) (by decide) e2013 E1988 (rm52 l Z a0 hw [] a a1_ a2_ a3_ a4_ a5_ a6_ a7_ a8_ a9_ a10_ a11_ va vb vp h1985 n0 Z1987 ga hord ⟨E1988, F1989, F1990, F1991, F1992, F1993, F1994, F1995, F1996, F1997, F1998, F1999, F2000, F2001, F2002, V2003, V2004, V2005, V2006, V2007, V1985, V2008, V2009, V2010, V2011, V2012⟩ hc) (by rw [hml]; rfl) pd_2 (argsL := [(.int (0 : Int32))]) rfl (rest := []) rfl (hb hby d16_48) 0 (Nat.le_of_eq rfl) (by decide) (by decide) (by decide) (by decide) 51 rfl (fun T2103 L2103 v2103 X2103 hQ2103 => ?_)
  obtain ⟨rfl, N2103, Z2103, B2103⟩ := hQ2103
  have N2104 := Fr.app N1986 N2103
  obtain ⟨E2103, F0_2103, F1_2103, F2_2103, F3_2103, F4_2103, F5_2103, F6_2103, F7_2103, F8_2103, F9_2103, F10_2103, F11_2103, F12_2103, F13_2103, V0_2103, V1_2103, V2_2103, V3_2103, V4_2103, V5_2103, V6_2103, V7_2103, V8_2103, V9_2103, V10_2103⟩ := B2103
  show own_Go p e below G (T2103.setTop (mkF m 51 #[.val (.ref a), .val (.int (0 : Int32)), .val (.int (1 : Int32)), .val (.int (1 : Int32)), .val (.int (1 : Int32)), .val (.int (1 : Int32))] [(.int (0 : Int32))]))
  refine own_istore X2103 hx (hb hby d16_51) #[.val (.ref a), .val (.int (0 : Int32)), .val (.int (1 : Int32)), .val (.int (1 : Int32)), .val (.int (0 : Int32)), .val (.int (1 : Int32))] rfl 53 rfl ?_
  refine own_iinc X2103 hx (hb hby d16_53) rfl #[.val (.ref a), .val (.int (0 : Int32)), .val (.int (1 : Int32)), .val (.int (1 : Int32)), .val (.int (0 : Int32)), .val (.int (0 : Int32))] rfl 56 rfl ?_
  refine own_goto X2103 hx (hb hby d16_56) 6 ⟨by decide, by decide⟩ ?_
  refine own_iload X2103 hx (hb hby d16_6) rfl 8 rfl ?_
  refine own_iloadN X2103 hx (hb hby d16_8) rfl 9 rfl ?_
  refine own_icmpY X2103 hx (hb hby d16_9) (flt (by decide)).2.2.2 59 ⟨by decide, by decide⟩ ?_
  refine own_iload X2103 hx (hb hby d16_59) rfl 61 rfl ?_
  refine own_ireturn X2103 hx Bd.notSynchronized hG Bd.returns (hb hby d16_61) (by decide) (by decide) ?_
  skip
  exact ⟨rfl, N2104, Z2103, ⟨E2103, F0_2103, F1_2103, F2_2103, F3_2103, F4_2103, F5_2103, F6_2103, F7_2103, F8_2103, F9_2103, F10_2103, F11_2103, F12_2103, F13_2103, V0_2103, V1_2103, V2_2103, V3_2103, V4_2103, V5_2103, V6_2103, V7_2103, V8_2103, V9_2103, V10_2103⟩⟩
def Q42 (Z : State) (a a1_ a2_ a3_ a4_ a5_ a6_ a7_ a8_ a9_ a10_ a11_ : Addr) (va vb vp : Int64) (h0 : Heap) (n0 : Nat) (v : Option Value) (h : Heap) (L : List Loc) : Prop := v = none ∧ Fr n0 L ∧ n0 ≤ h.size ∧ own_PE Z h a a1_ a2_ a3_ a4_ a5_ a6_ a7_ a8_ a9_ a10_ a11_ (0 : Int32) (0 : Int32) (2 : Int32) ((List.replicate 127 (0 : Int32)).set 0 (0 : Int32)) ((List.replicate 127 (0 : Int32)).set 0 (1 : Int32)) [(0 : Int32), (1 : Int32)] [(1 : Int32), (0 : Int32)] [(-1 : Int32), (-1 : Int32)] [(1 : Int32), (-1 : Int32)] [(2 : Int32), (1 : Int32)] [va, vb] [vp, vp] [(((0 : Int64) + vp) + (((0 : Int64) + vp) + (0 : Int64))), (((0 : Int64) + vp) + (0 : Int64))]
theorem ef_rm42 (m : MethodId) (x0 : Addr) (x1 : Int32) : entryFrame m #[(.ref x0), (.int x1)] 2 = mkF m 0 #[.val (.ref x0), .val (.int x1)] [] := by first | (simp [entryFrame, mkF, argsToLocals, Value.category, maxLocals]; done) | rfl
set_option maxRecDepth 65536 in
set_option maxHeartbeats 40000000 in
theorem rm42 (l : Launch) (Z : State) (a0 : Array Value) (hw : ∀ d ∈ tables_1, d.before a0 Z = true) (ws : List Jvm.Cond) (a a1_ a2_ a3_ a4_ a5_ a6_ a7_ a8_ a9_ a10_ a11_ : Addr) (va vb vp : Int64) (h0 : Heap) (n0 : Nat) (Z0 : n0 ≤ h0.size) (ga : n0 ≤ a) (hord : own_Or a a1_ a2_ a3_ a4_ a5_ a6_ a7_ a8_ a9_ a10_ a11_) (B : own_PE Z h0 a a1_ a2_ a3_ a4_ a5_ a6_ a7_ a8_ a9_ a10_ a11_ (0 : Int32) (0 : Int32) (1 : Int32) (List.replicate 127 (0 : Int32)) (List.replicate 127 (0 : Int32)) [(0 : Int32), (1 : Int32)] [(1 : Int32), (0 : Int32)] [(-1 : Int32), (-1 : Int32)] [(-1 : Int32), (-1 : Int32)] [(1 : Int32), (0 : Int32)] [va, vb] [vp, vp] [(((0 : Int64) + vp) + (0 : Int64)), (0 : Int64)]) (hc : va = vb) :
    MetFree l own_y7 (head1 (Jvm.Cond.code own_y7 prog_49_method_12_code 2 none :: ws) ({ frames := 5, cells := 0, slots := 0, locals := 78 } : Room)) (fun aR U => aR = #[(.ref a), (.int (1 : Int32))] ∧ Z.Warmed39 U.vm ∧ U.heap = h0) (fun _ _ _ _ _ => True) (fun _ U o U' => ∃ v L, o = .returned v ∧ Q42 Z a a1_ a2_ a3_ a4_ a5_ a6_ a7_ a8_ a9_ a10_ a11_ va vb vp h0 n0 v U'.heap L ∧ FrameEnd U o U' L ({ frames := 5, cells := 0, slots := 0, locals := 78 } : Room).cells ({ frames := 5, cells := 0, slots := 0, locals := 78 } : Room).slots) := by
  refine MetFree.of_bodySF pf_7 hisR ?_
  intro p e s m args below meth c s₁ Bd hml0 hP hK
  obtain ⟨rfl, hZ, hhE⟩ := hP
  have hx := Bd.exec
  have hby := Bd.bytes
  have hml : c.maxLocals = 2 := hml0
  have hown : s.vm.findClass "com/example/equitide/equitide/policy/backfilling/AvlTree" = some m.cls := findClass_of_methodNamed Bd.named
  have hnm := (name_of_methodNamed Bd.named Bd.method).1
  have X0 : Stand p l e ({ frames := 5, cells := 0, slots := 0, locals := 78 } : Room) s m #[(.ref a), (.int (1 : Int32))] below meth c s₁ [] 0 0 := Stand.of_body Bd
  have e0 : s₁.heap = h0 := by rw [← hhE, Bd.state]; rfl
  have N0 := Fr.nil n0
  show own_Go p e below (own_Post s (Q42 Z a a1_ a2_ a3_ a4_ a5_ a6_ a7_ a8_ a9_ a10_ a11_ va vb vp h0 n0) ({ frames := 5, cells := 0, slots := 0, locals := 78 } : Room).cells ({ frames := 5, cells := 0, slots := 0, locals := 78 } : Room).slots) (s₁.setTop (entryFrame m #[(.ref a), (.int (1 : Int32))] 2))
  rw [ef_rm42]
  generalize hG : own_Post s (Q42 Z a a1_ a2_ a3_ a4_ a5_ a6_ a7_ a8_ a9_ a10_ a11_ va vb vp h0 n0) ({ frames := 5, cells := 0, slots := 0, locals := 78 } : Room).cells ({ frames := 5, cells := 0, slots := 0, locals := 78 } : Room).slots = G
  obtain ⟨o1, o2, o3, o4, o5, o6, o7, o8, o9, o10, o11⟩ := id hord
  obtain ⟨E0, F0_0, F1_0, F2_0, F3_0, F4_0, F5_0, F6_0, F7_0, F8_0, F9_0, F10_0, F11_0, F12_0, F13_0, V0_0, V1_0, V2_0, V3_0, V4_0, V5_0, V6_0, V7_0, V8_0, V9_0, V10_0⟩ := B
  refine own_aloadN X0 hx (hb hby d7_0) rfl rfl 1 rfl ?_
  refine own_dup X0 hx (hb hby d7_1) rfl 2 rfl ?_
  refine own_getF X0 hx hZ hown (own_w hw 68 rfl) Via.refl e0 F2_0 (hb hby d7_2) 5 rfl (fun T1804 X1804 e1804 => ?_)
  refine own_iconst X1804 hx (hb hby d7_5) (1 : Int32) rfl 6 rfl ?_
  refine own_iadd X1804 hx (hb hby d7_6) 7 rfl ?_
  show own_Go p e below G (T1804.setTop (mkF m 7 #[.val (.ref a), .val (.int (1 : Int32))] [(.int (2 : Int32)), (.ref a)]))
  refine own_putF X1804 hx hZ hown (own_w hw 68 rfl) Via.refl e1804 F2_0 E0 (Or.inl (own_w hw 69 rfl)) (own_w hw 1 rfl) (ty := .int) (v' := (.int (2 : Int32))) (by decide) rfl rfl (hb hby d7_7) 10 rfl (fun T1805 h1805 X1805 e1805 W1805 => ?_)
  have N1806 := Fr.snoc X1805 N0 ga
  have Z1807 : n0 ≤ h1805.size := by rw [W1805.size]; exact Z0
  have E1808 := E0.wr W1805
  have F1809 := F0_0.other W1805 (Or.inr (sn_169 hw))
  have F1810 := F1_0.other W1805 (Or.inr (sn_170 hw))
  have F1811 := F2_0.same W1805
  have F1812 := F3_0.other W1805 (Or.inr (sn_171 hw))
  have F1813 := F4_0.other W1805 (Or.inr (sn_172 hw))
  have F1814 := F5_0.other W1805 (Or.inr (sn_173 hw))
  have F1815 := F6_0.other W1805 (Or.inr (sn_174 hw))
  have F1816 := F7_0.other W1805 (Or.inr (sn_175 hw))
  have F1817 := F8_0.other W1805 (Or.inr (sn_176 hw))
  have F1818 := F9_0.other W1805 (Or.inr (sn_177 hw))
  have F1819 := F10_0.other W1805 (Or.inr (sn_178 hw))
  have F1820 := F11_0.other W1805 (Or.inr (sn_179 hw))
  have F1821 := F12_0.other W1805 (Or.inr (sn_180 hw))
  have F1822 := F13_0.other W1805 (Or.inr (sn_181 hw))
  have V1823 := V0_0.other W1805 (Ne.symm (Nat.ne_of_lt (by omega)))
  have V1824 := V1_0.other W1805 (Ne.symm (Nat.ne_of_lt (by omega)))
  have V1825 := V2_0.other W1805 (Ne.symm (Nat.ne_of_lt (by omega)))
  have V1826 := V3_0.other W1805 (Ne.symm (Nat.ne_of_lt (by omega)))
  have V1827 := V4_0.other W1805 (Ne.symm (Nat.ne_of_lt (by omega)))
  have V1828 := V5_0.other W1805 (Ne.symm (Nat.ne_of_lt (by omega)))
  have V1829 := V6_0.other W1805 (Ne.symm (Nat.ne_of_lt (by omega)))
  have V1830 := V7_0.other W1805 (Ne.symm (Nat.ne_of_lt (by omega)))
  have V1831 := V8_0.other W1805 (Ne.symm (Nat.ne_of_lt (by omega)))
  have V1832 := V9_0.other W1805 (Ne.symm (Nat.ne_of_lt (by omega)))
  have V1833 := V10_0.other W1805 (Ne.symm (Nat.ne_of_lt (by omega)))
  refine own_aloadN X1805 hx (hb hby d7_10) rfl rfl 11 rfl ?_
  refine own_iloadN X1805 hx (hb hby d7_11) rfl 12 rfl ?_
  refine own_callP X1805 hx hZ hown (own_w hw 70 rfl) (own_w hw 71 rfl) (own_w hw 72 rfl) (own_niS hZ (own_w hw 60 rfl) (own_w hw 59 rfl) rfl) (own_w hw 9 rfl) (own_w hw 73 rfl) (by decide) e1805 E1808 (rm43 l Z a0 hw [] a a1_ a2_ a3_ a4_ a5_ a6_ a7_ a8_ a9_ a10_ a11_ va vb vp h1805 n0 Z1807 ga hord ⟨E1808, F1809, F1810, F1811, F1812, F1813, F1814, F1815, F1816, F1817, F1818, F1819, F1820, F1821, F1822, V1823, V1824, V1825, V1826, V1827, V1828, V1829, V1830, V1831, V1832, V1833⟩ hc) (by rw [hml]; rfl) pd_5 (argsL := [(.int (1 : Int32))]) rfl (rest := []) rfl (hb hby d7_12) 0 (Nat.le_of_eq rfl) (by decide) (by decide) (by decide) (by decide) 15 rfl (fun T1913 L1913 v1913 X1913 hQ1913 => ?_)
  obtain ⟨rfl, N1913, Z1913, B1913⟩ := hQ1913
  have N1914 := Fr.app N1806 N1913
  obtain ⟨E1913, F0_1913, F1_1913, F2_1913, F3_1913, F4_1913, F5_1913, F6_1913, F7_1913, F8_1913, F9_1913, F10_1913, F11_1913, F12_1913, F13_1913, V0_1913, V1_1913, V2_1913, V3_1913, V4_1913, V5_1913, V6_1913, V7_1913, V8_1913, V9_1913, V10_1913⟩ := B1913
  show own_Go p e below G (T1913.setTop (mkF m 15 #[.val (.ref a), .val (.int (1 : Int32))] []))
  refine own_aloadN X1913 hx (hb hby d7_15) rfl rfl 16 rfl ?_
  refine own_aloadN X1913 hx (hb hby d7_16) rfl rfl 17 rfl ?_
  refine own_iconst X1913 hx (hb hby d7_17) (0 : Int32) rfl 18 rfl ?_
  refine own_aloadN X1913 hx (hb hby d7_18) rfl rfl 19 rfl ?_
  refine own_iloadN X1913 hx (hb hby d7_19) rfl 20 rfl ?_
  refine own_iconst X1913 hx (hb hby d7_20) (-1 : Int32) rfl 21 rfl ?_
  refine own_callP X1913 hx hZ hown (own_w hw 103 rfl) (own_w hw 104 rfl) (own_w hw 105 rfl) (own_niS hZ (own_w hw 60 rfl) (own_w hw 59 rfl) rfl) (own_w hw 9 rfl) (own_w hw 106 rfl) (by decide) (rfl : T1913.heap = T1913.heap) E1913 (rm49 l Z a0 hw [] a a1_ a2_ a3_ a4_ a5_ a6_ a7_ a8_ a9_ a10_ a11_ va vb vp T1913.heap n0 Z1913 ga hord ⟨E1913, F0_1913, F1_1913, F2_1913, F3_1913, F4_1913, F5_1913, F6_1913, F7_1913, F8_1913, F9_1913, F10_1913, F11_1913, F12_1913, F13_1913, V0_1913, V1_1913, V2_1913, V3_1913, V4_1913, V5_1913, V6_1913, V7_1913, V8_1913, V9_1913, V10_1913⟩ hc) (by rw [hml]; rfl) pd_3 (argsL := [(.int (1 : Int32)), (.int (-1 : Int32))]) rfl (rest := [(.int (0 : Int32)), (.ref a), (.ref a)]) rfl (hb hby d7_21) 3 (Nat.le_of_eq rfl) (by decide) (by decide) (by decide) (by decide) 24 rfl (fun T1980 L1980 v1980 X1980 hQ1980 => ?_)
  obtain ⟨rfl, N1980, Z1980, B1980⟩ := hQ1980
  have N1981 := Fr.app N1914 N1980
  obtain ⟨E1980, F0_1980, F1_1980, F2_1980, F3_1980, F4_1980, F5_1980, F6_1980, F7_1980, F8_1980, F9_1980, F10_1980, F11_1980, F12_1980, F13_1980, V0_1980, V1_1980, V2_1980, V3_1980, V4_1980, V5_1980, V6_1980, V7_1980, V8_1980, V9_1980, V10_1980⟩ := B1980
  show own_Go p e below G (T1980.setTop (mkF m 24 #[.val (.ref a), .val (.int (1 : Int32))] [(.int (1 : Int32)), (.int (0 : Int32)), (.ref a), (.ref a)]))
  refine own_iloadN X1980 hx (hb hby d7_24) rfl 25 rfl ?_
  refine own_callP X1980 hx hZ hown (own_w hw 107 rfl) (own_w hw 108 rfl) (own_w hw 109 rfl) (own_niS hZ (own_w hw 60 rfl) (own_w hw 59 rfl) rfl) (own_w hw 9 rfl) (own_w hw 110 rfl) (by decide) (rfl : T1980.heap = T1980.heap) E1980 (rm51 l Z a0 hw [] a a1_ a2_ a3_ a4_ a5_ a6_ a7_ a8_ a9_ a10_ a11_ va vb vp T1980.heap n0 Z1980 ga hord ⟨E1980, F0_1980, F1_1980, F2_1980, F3_1980, F4_1980, F5_1980, F6_1980, F7_1980, F8_1980, F9_1980, F10_1980, F11_1980, F12_1980, F13_1980, V0_1980, V1_1980, V2_1980, V3_1980, V4_1980, V5_1980, V6_1980, V7_1980, V8_1980, V9_1980, V10_1980⟩ hc) (by rw [hml]; rfl) pd_6 (argsL := [(.int (0 : Int32)), (.int (1 : Int32)), (.int (1 : Int32))]) rfl (rest := [(.ref a)]) rfl (hb hby d7_25) 1 (Nat.le_of_eq rfl) (by decide) (by decide) (by decide) (by decide) 28 rfl (fun T2105 L2105 v2105 X2105 hQ2105 => ?_)
  obtain ⟨rfl, N2105, Z2105, B2105⟩ := hQ2105
  have N2106 := Fr.app N1981 N2105
  obtain ⟨E2105, F0_2105, F1_2105, F2_2105, F3_2105, F4_2105, F5_2105, F6_2105, F7_2105, F8_2105, F9_2105, F10_2105, F11_2105, F12_2105, F13_2105, V0_2105, V1_2105, V2_2105, V3_2105, V4_2105, V5_2105, V6_2105, V7_2105, V8_2105, V9_2105, V10_2105⟩ := B2105
  show own_Go p e below G (T2105.setTop (mkF m 28 #[.val (.ref a), .val (.int (1 : Int32))] [(.int (0 : Int32)), (.ref a)]))
  refine own_putF X2105 hx hZ hown (own_w hw 14 rfl) Via.refl (rfl : T2105.heap = T2105.heap) F0_2105 E2105 (Or.inl (own_w hw 15 rfl)) (own_w hw 1 rfl) (ty := .int) (v' := (.int (0 : Int32))) (by decide) rfl rfl (hb hby d7_28) 31 rfl (fun T2107 h2107 X2107 e2107 W2107 => ?_)
  have N2108 := Fr.snoc X2107 N2106 ga
  have Z2109 : n0 ≤ h2107.size := by rw [W2107.size]; exact Z2105
  have E2110 := E2105.wr W2107
  have F2111 := F0_2105.same W2107
  have F2112 := F1_2105.other W2107 (Or.inr (sn_0 hw))
  have F2113 := F2_2105.other W2107 (Or.inr (sn_1 hw))
  have F2114 := F3_2105.other W2107 (Or.inr (sn_2 hw))
  have F2115 := F4_2105.other W2107 (Or.inr (sn_3 hw))
  have F2116 := F5_2105.other W2107 (Or.inr (sn_4 hw))
  have F2117 := F6_2105.other W2107 (Or.inr (sn_5 hw))
  have F2118 := F7_2105.other W2107 (Or.inr (sn_6 hw))
  have F2119 := F8_2105.other W2107 (Or.inr (sn_7 hw))
  have F2120 := F9_2105.other W2107 (Or.inr (sn_8 hw))
  have F2121 := F10_2105.other W2107 (Or.inr (sn_9 hw))
  have F2122 := F11_2105.other W2107 (Or.inr (sn_10 hw))
  have F2123 := F12_2105.other W2107 (Or.inr (sn_11 hw))
  have F2124 := F13_2105.other W2107 (Or.inr (sn_12 hw))
  have V2125 := V0_2105.other W2107 (Ne.symm (Nat.ne_of_lt (by omega)))
  have V2126 := V1_2105.other W2107 (Ne.symm (Nat.ne_of_lt (by omega)))
  have V2127 := V2_2105.other W2107 (Ne.symm (Nat.ne_of_lt (by omega)))
  have V2128 := V3_2105.other W2107 (Ne.symm (Nat.ne_of_lt (by omega)))
  have V2129 := V4_2105.other W2107 (Ne.symm (Nat.ne_of_lt (by omega)))
  have V2130 := V5_2105.other W2107 (Ne.symm (Nat.ne_of_lt (by omega)))
  have V2131 := V6_2105.other W2107 (Ne.symm (Nat.ne_of_lt (by omega)))
  have V2132 := V7_2105.other W2107 (Ne.symm (Nat.ne_of_lt (by omega)))
  have V2133 := V8_2105.other W2107 (Ne.symm (Nat.ne_of_lt (by omega)))
  have V2134 := V9_2105.other W2107 (Ne.symm (Nat.ne_of_lt (by omega)))
  have V2135 := V10_2105.other W2107 (Ne.symm (Nat.ne_of_lt (by omega)))
  refine own_return X2107 hx Bd.notSynchronized hG Bd.returns (hb hby d7_31) (by decide) (by decide) ?_
  rw [e2107]
  exact ⟨rfl, N2108, Z2109, ⟨E2110, F2111, F2112, F2113, F2114, F2115, F2116, F2117, F2118, F2119, F2120, F2121, F2122, F2123, F2124, V2125, V2126, V2127, V2128, V2129, V2130, V2131, V2132, V2133, V2134, V2135⟩⟩
def Q39 (Z : State) (a a1_ a2_ a3_ a4_ a5_ a6_ a7_ a8_ a9_ a10_ a11_ : Addr) (va vb vp : Int64) (h0 : Heap) (n0 : Nat) (v : Option Value) (h : Heap) (L : List Loc) : Prop := v = none ∧ Fr n0 L ∧ n0 ≤ h.size ∧ own_PE Z h a a1_ a2_ a3_ a4_ a5_ a6_ a7_ a8_ a9_ a10_ a11_ (0 : Int32) (0 : Int32) (2 : Int32) ((List.replicate 127 (0 : Int32)).set 0 (0 : Int32)) ((List.replicate 127 (0 : Int32)).set 0 (1 : Int32)) [(0 : Int32), (1 : Int32)] [(1 : Int32), (0 : Int32)] [(-1 : Int32), (-1 : Int32)] [(1 : Int32), (-1 : Int32)] [(2 : Int32), (1 : Int32)] [va, vb] [vp, vp] [(((0 : Int64) + vp) + (((0 : Int64) + vp) + (0 : Int64))), (((0 : Int64) + vp) + (0 : Int64))]
theorem ef_rm39 (m : MethodId) (x0 : Addr) (x1 : Int32) (x2 : Int64) (x3 : Int64) : entryFrame m #[(.ref x0), (.int x1), (.long x2), (.long x3)] 7 = mkF m 0 #[.val (.ref x0), .val (.int x1), .val (.long x2), .second, .val (.long x3), .second, .unset] [] := by first | (simp [entryFrame, mkF, argsToLocals, Value.category, maxLocals]; done) | rfl
set_option maxRecDepth 65536 in
set_option maxHeartbeats 40000000 in
theorem rm39 (l : Launch) (Z : State) (a0 : Array Value) (hw : ∀ d ∈ tables_1, d.before a0 Z = true) (ws : List Jvm.Cond) (a a1_ a2_ a3_ a4_ a5_ a6_ a7_ a8_ a9_ a10_ a11_ : Addr) (va vb vp : Int64) (h0 : Heap) (n0 : Nat) (Z0 : n0 ≤ h0.size) (ga : n0 ≤ a) (hord : own_Or a a1_ a2_ a3_ a4_ a5_ a6_ a7_ a8_ a9_ a10_ a11_) (B : own_PE Z h0 a a1_ a2_ a3_ a4_ a5_ a6_ a7_ a8_ a9_ a10_ a11_ (0 : Int32) (1 : Int32) (1 : Int32) (List.replicate 127 (0 : Int32)) (List.replicate 127 (0 : Int32)) [(0 : Int32), (0 : Int32)] [(1 : Int32), (0 : Int32)] [(-1 : Int32), (0 : Int32)] [(-1 : Int32), (0 : Int32)] [(1 : Int32), (0 : Int32)] [va, (0 : Int64)] [vp, (0 : Int64)] [(((0 : Int64) + vp) + (0 : Int64)), (0 : Int64)]) (hc : va = vb) :
    MetFree l own_y4 (head1 (Jvm.Cond.code own_y4 prog_66_method_2_code 7 none :: ws) ({ frames := 6, cells := 0, slots := 0, locals := 91 } : Room)) (fun aR U => aR = #[(.ref a), (.int (1 : Int32)), (.long vb), (.long vp)] ∧ Z.Warmed39 U.vm ∧ U.heap = h0) (fun _ _ _ _ _ => True) (fun _ U o U' => ∃ v L, o = .returned v ∧ Q39 Z a a1_ a2_ a3_ a4_ a5_ a6_ a7_ a8_ a9_ a10_ a11_ va vb vp h0 n0 v U'.heap L ∧ FrameEnd U o U' L ({ frames := 6, cells := 0, slots := 0, locals := 91 } : Room).cells ({ frames := 6, cells := 0, slots := 0, locals := 91 } : Room).slots) := by
  refine MetFree.of_bodySF pf_4 hisR ?_
  intro p e s m args below meth c s₁ Bd hml0 hP hK
  obtain ⟨rfl, hZ, hhE⟩ := hP
  have hx := Bd.exec
  have hby := Bd.bytes
  have hml : c.maxLocals = 7 := hml0
  have hown : s.vm.findClass "com/example/equitide/equitide/policy/backfilling/PlannedEnds" = some m.cls := findClass_of_methodNamed Bd.named
  have hnm := (name_of_methodNamed Bd.named Bd.method).1
  have X0 : Stand p l e ({ frames := 6, cells := 0, slots := 0, locals := 91 } : Room) s m #[(.ref a), (.int (1 : Int32)), (.long vb), (.long vp)] below meth c s₁ [] 0 0 := Stand.of_body Bd
  have e0 : s₁.heap = h0 := by rw [← hhE, Bd.state]; rfl
  have N0 := Fr.nil n0
  show own_Go p e below (own_Post s (Q39 Z a a1_ a2_ a3_ a4_ a5_ a6_ a7_ a8_ a9_ a10_ a11_ va vb vp h0 n0) ({ frames := 6, cells := 0, slots := 0, locals := 91 } : Room).cells ({ frames := 6, cells := 0, slots := 0, locals := 91 } : Room).slots) (s₁.setTop (entryFrame m #[(.ref a), (.int (1 : Int32)), (.long vb), (.long vp)] 7))
  rw [ef_rm39]
  generalize hG : own_Post s (Q39 Z a a1_ a2_ a3_ a4_ a5_ a6_ a7_ a8_ a9_ a10_ a11_ va vb vp h0 n0) ({ frames := 6, cells := 0, slots := 0, locals := 91 } : Room).cells ({ frames := 6, cells := 0, slots := 0, locals := 91 } : Room).slots = G
  obtain ⟨o1, o2, o3, o4, o5, o6, o7, o8, o9, o10, o11⟩ := id hord
  obtain ⟨E0, F0_0, F1_0, F2_0, F3_0, F4_0, F5_0, F6_0, F7_0, F8_0, F9_0, F10_0, F11_0, F12_0, F13_0, V0_0, V1_0, V2_0, V3_0, V4_0, V5_0, V6_0, V7_0, V8_0, V9_0, V10_0⟩ := B
  refine own_aloadN X0 hx (hb hby d4_0) rfl rfl 1 rfl ?_
  refine own_iloadN X0 hx (hb hby d4_1) rfl 2 rfl ?_
  refine own_callU X0 hx hZ hown (own_w hw 51 rfl) (own_w hw 52 rfl) (own_w hw 53 rfl) (own_w hw 55 rfl) (own_w hw 54 rfl) (own_w hw 9 rfl) (own_w hw 56 rfl) (by decide) e0 E0 (rm40 l Z a0 hw [] a a1_ a2_ a3_ a4_ a5_ a6_ a7_ a8_ a9_ a10_ a11_ va vb vp h0 n0 Z0 ga hord ⟨E0, F0_0, F1_0, F2_0, F3_0, F4_0, F5_0, F6_0, F7_0, F8_0, F9_0, F10_0, F11_0, F12_0, F13_0, V0_0, V1_0, V2_0, V3_0, V4_0, V5_0, V6_0, V7_0, V8_0, V9_0, V10_0⟩ hc) (by rw [hml]; rfl) pd_2 (argsL := [(.int (1 : Int32))]) rfl (rest := []) rfl (hb hby d4_2) 0 (Nat.le_of_eq rfl) (by decide) (by decide) (by decide) (by decide) 5 rfl (fun T1744 L1744 v1744 X1744 hQ1744 => ?_)
  obtain ⟨rfl, N1744, Z1744, B1744⟩ := hQ1744
  have N1745 := Fr.app N0 N1744
  obtain ⟨E1744, F0_1744, F1_1744, F2_1744, F3_1744, F4_1744, F5_1744, F6_1744, F7_1744, F8_1744, F9_1744, F10_1744, F11_1744, F12_1744, F13_1744, V0_1744, V1_1744, V2_1744, V3_1744, V4_1744, V5_1744, V6_1744, V7_1744, V8_1744, V9_1744, V10_1744⟩ := B1744
  show own_Go p e below G (T1744.setTop (mkF m 5 #[.val (.ref a), .val (.int (1 : Int32)), .val (.long vb), .second, .val (.long vp), .second, .unset] [(.int (1 : Int32))]))
  refine own_istore X1744 hx (hb hby d4_5) #[.val (.ref a), .val (.int (1 : Int32)), .val (.long vb), .second, .val (.long vp), .second, .val (.int (1 : Int32))] rfl 7 rfl ?_
  refine own_aloadN X1744 hx (hb hby d4_7) rfl rfl 8 rfl ?_
  refine own_getF X1744 hx hZ hown (own_w hw 40 rfl) Via.refl (rfl : T1744.heap = T1744.heap) F11_1744 (hb hby d4_8) 11 rfl (fun T1746 X1746 e1746 => ?_)
  refine own_iload X1746 hx (hb hby d4_11) rfl 13 rfl ?_
  refine own_lloadN X1746 hx (hb hby d4_13) rfl 14 rfl ?_
  refine own_lastore X1746 hx hZ e1746 V8_1744 1 rfl (by simp) (hb hby d4_14) 15 rfl (fun T1747 h1747 X1747 e1747 W1747 V1747 => ?_)
  rw [show [va, (0 : Int64)].set 1 vb = [va, vb] from rfl] at V1747
  have N1748 := Fr.snoc X1747 N1745 (by omega)
  have Z1749 : n0 ≤ h1747.size := by rw [W1747.size]; exact Z1744
  have E1750 := E1744.wr W1747
  have F1751 := F0_1744.other W1747 (Or.inl (Nat.ne_of_lt (by omega)))
  have F1752 := F1_1744.other W1747 (Or.inl (Nat.ne_of_lt (by omega)))
  have F1753 := F2_1744.other W1747 (Or.inl (Nat.ne_of_lt (by omega)))
  have F1754 := F3_1744.other W1747 (Or.inl (Nat.ne_of_lt (by omega)))
  have F1755 := F4_1744.other W1747 (Or.inl (Nat.ne_of_lt (by omega)))
  have F1756 := F5_1744.other W1747 (Or.inl (Nat.ne_of_lt (by omega)))
  have F1757 := F6_1744.other W1747 (Or.inl (Nat.ne_of_lt (by omega)))
  have F1758 := F7_1744.other W1747 (Or.inl (Nat.ne_of_lt (by omega)))
  have F1759 := F8_1744.other W1747 (Or.inl (Nat.ne_of_lt (by omega)))
  have F1760 := F9_1744.other W1747 (Or.inl (Nat.ne_of_lt (by omega)))
  have F1761 := F10_1744.other W1747 (Or.inl (Nat.ne_of_lt (by omega)))
  have F1762 := F11_1744.other W1747 (Or.inl (Nat.ne_of_lt (by omega)))
  have F1763 := F12_1744.other W1747 (Or.inl (Nat.ne_of_lt (by omega)))
  have F1764 := F13_1744.other W1747 (Or.inl (Nat.ne_of_lt (by omega)))
  have V1765 := V0_1744.other W1747 (Nat.ne_of_lt (by omega))
  have V1766 := V1_1744.other W1747 (Nat.ne_of_lt (by omega))
  have V1767 := V2_1744.other W1747 (Nat.ne_of_lt (by omega))
  have V1768 := V3_1744.other W1747 (Nat.ne_of_lt (by omega))
  have V1769 := V4_1744.other W1747 (Nat.ne_of_lt (by omega))
  have V1770 := V5_1744.other W1747 (Nat.ne_of_lt (by omega))
  have V1771 := V6_1744.other W1747 (Nat.ne_of_lt (by omega))
  have V1772 := V7_1744.other W1747 (Nat.ne_of_lt (by omega))
  have V1773 := V9_1744.other W1747 (Ne.symm (Nat.ne_of_lt (by omega)))
  have V1774 := V10_1744.other W1747 (Ne.symm (Nat.ne_of_lt (by omega)))
  refine own_aloadN X1747 hx (hb hby d4_15) rfl rfl 16 rfl ?_
  refine own_getF X1747 hx hZ hown (own_w hw 42 rfl) Via.refl e1747 F1763 (hb hby d4_16) 19 rfl (fun T1775 X1775 e1775 => ?_)
  refine own_iload X1775 hx (hb hby d4_19) rfl 21 rfl ?_
  refine own_lload X1775 hx (hb hby d4_21) rfl 23 rfl ?_
  refine own_lastore X1775 hx hZ e1775 V1773 1 rfl (by simp) (hb hby d4_23) 24 rfl (fun T1776 h1776 X1776 e1776 W1776 V1776 => ?_)
  rw [show [vp, (0 : Int64)].set 1 vp = [vp, vp] from rfl] at V1776
  have N1777 := Fr.snoc X1776 N1748 (by omega)
  have Z1778 : n0 ≤ h1776.size := by rw [W1776.size]; exact Z1749
  have E1779 := E1750.wr W1776
  have F1780 := F1751.other W1776 (Or.inl (Nat.ne_of_lt (by omega)))
  have F1781 := F1752.other W1776 (Or.inl (Nat.ne_of_lt (by omega)))
  have F1782 := F1753.other W1776 (Or.inl (Nat.ne_of_lt (by omega)))
  have F1783 := F1754.other W1776 (Or.inl (Nat.ne_of_lt (by omega)))
  have F1784 := F1755.other W1776 (Or.inl (Nat.ne_of_lt (by omega)))
  have F1785 := F1756.other W1776 (Or.inl (Nat.ne_of_lt (by omega)))
  have F1786 := F1757.other W1776 (Or.inl (Nat.ne_of_lt (by omega)))
  have F1787 := F1758.other W1776 (Or.inl (Nat.ne_of_lt (by omega)))
  have F1788 := F1759.other W1776 (Or.inl (Nat.ne_of_lt (by omega)))
  have F1789 := F1760.other W1776 (Or.inl (Nat.ne_of_lt (by omega)))
  have F1790 := F1761.other W1776 (Or.inl (Nat.ne_of_lt (by omega)))
  have F1791 := F1762.other W1776 (Or.inl (Nat.ne_of_lt (by omega)))
  have F1792 := F1763.other W1776 (Or.inl (Nat.ne_of_lt (by omega)))
  have F1793 := F1764.other W1776 (Or.inl (Nat.ne_of_lt (by omega)))
  have V1794 := V1765.other W1776 (Nat.ne_of_lt (by omega))
  have V1795 := V1766.other W1776 (Nat.ne_of_lt (by omega))
  have V1796 := V1767.other W1776 (Nat.ne_of_lt (by omega))
  have V1797 := V1768.other W1776 (Nat.ne_of_lt (by omega))
  have V1798 := V1769.other W1776 (Nat.ne_of_lt (by omega))
  have V1799 := V1770.other W1776 (Nat.ne_of_lt (by omega))
  have V1800 := V1771.other W1776 (Nat.ne_of_lt (by omega))
  have V1801 := V1772.other W1776 (Nat.ne_of_lt (by omega))
  have V1802 := V1774.other W1776 (Ne.symm (Nat.ne_of_lt (by omega)))
  have V1803 := V1747.other W1776 (Nat.ne_of_lt (by omega))
  refine own_aloadN X1776 hx (hb hby d4_24) rfl rfl 25 rfl ?_
  refine own_iload X1776 hx (hb hby d4_25) rfl 27 rfl ?_
  refine own_callU X1776 hx hZ hown (own_w hw 62 rfl) (own_w hw 63 rfl) (own_w hw 64 rfl) (own_w hw 66 rfl) (own_w hw 65 rfl) (own_w hw 9 rfl) (own_w hw 67 rfl) (by decide) e1776 E1779 (rm42 l Z a0 hw [] a a1_ a2_ a3_ a4_ a5_ a6_ a7_ a8_ a9_ a10_ a11_ va vb vp h1776 n0 Z1778 ga hord ⟨E1779, F1780, F1781, F1782, F1783, F1784, F1785, F1786, F1787, F1788, F1789, F1790, F1791, F1792, F1793, V1794, V1795, V1796, V1797, V1798, V1799, V1800, V1801, V1803, V1776, V1802⟩ hc) (by rw [hml]; rfl) pd_5 (argsL := [(.int (1 : Int32))]) rfl (rest := []) rfl (hb hby d4_27) 0 (Nat.le_of_eq rfl) (by decide) (by decide) (by decide) (by decide) 30 rfl (fun T2136 L2136 v2136 X2136 hQ2136 => ?_)
  obtain ⟨rfl, N2136, Z2136, B2136⟩ := hQ2136
  have N2137 := Fr.app N1777 N2136
  obtain ⟨E2136, F0_2136, F1_2136, F2_2136, F3_2136, F4_2136, F5_2136, F6_2136, F7_2136, F8_2136, F9_2136, F10_2136, F11_2136, F12_2136, F13_2136, V0_2136, V1_2136, V2_2136, V3_2136, V4_2136, V5_2136, V6_2136, V7_2136, V8_2136, V9_2136, V10_2136⟩ := B2136
  show own_Go p e below G (T2136.setTop (mkF m 30 #[.val (.ref a), .val (.int (1 : Int32)), .val (.long vb), .second, .val (.long vp), .second, .val (.int (1 : Int32))] []))
  refine own_return X2136 hx Bd.notSynchronized hG Bd.returns (hb hby d4_30) (by decide) (by decide) ?_
  skip
  exact ⟨rfl, N2137, Z2136, ⟨E2136, F0_2136, F1_2136, F2_2136, F3_2136, F4_2136, F5_2136, F6_2136, F7_2136, F8_2136, F9_2136, F10_2136, F11_2136, F12_2136, F13_2136, V0_2136, V1_2136, V2_2136, V3_2136, V4_2136, V5_2136, V6_2136, V7_2136, V8_2136, V9_2136, V10_2136⟩⟩
def Q61 (Z : State) (a a1_ a2_ a3_ a4_ a5_ a6_ a7_ a8_ a9_ a10_ a11_ : Addr) (va vb vp : Int64) (h0 : Heap) (n0 : Nat) (v : Option Value) (h : Heap) (L : List Loc) : Prop := v = some (.int (1 : Int32)) ∧ Fr n0 L ∧ h = h0
theorem ef_rm61 (m : MethodId) (x0 : Addr) (x1 : Int32) (x2 : Int32) : entryFrame m #[(.ref x0), (.int x1), (.int x2)] 3 = mkF m 0 #[.val (.ref x0), .val (.int x1), .val (.int x2)] [] := by first | (simp [entryFrame, mkF, argsToLocals, Value.category, maxLocals]; done) | rfl
set_option maxRecDepth 65536 in
set_option maxHeartbeats 40000000 in
theorem rm61 (l : Launch) (Z : State) (a0 : Array Value) (hw : ∀ d ∈ tables_1, d.before a0 Z = true) (ws : List Jvm.Cond) (a a1_ a2_ a3_ a4_ a5_ a6_ a7_ a8_ a9_ a10_ a11_ : Addr) (va vb vp : Int64) (h0 : Heap) (n0 : Nat) (Z0 : n0 ≤ h0.size) (ga : n0 ≤ a) (hord : own_Or a a1_ a2_ a3_ a4_ a5_ a6_ a7_ a8_ a9_ a10_ a11_) (B : own_PE Z h0 a a1_ a2_ a3_ a4_ a5_ a6_ a7_ a8_ a9_ a10_ a11_ (0 : Int32) (0 : Int32) (2 : Int32) ((List.replicate 127 (0 : Int32)).set 0 (0 : Int32)) ((List.replicate 127 (0 : Int32)).set 0 (1 : Int32)) [(0 : Int32), (1 : Int32)] [(1 : Int32), (0 : Int32)] [(-1 : Int32), (-1 : Int32)] [(1 : Int32), (-1 : Int32)] [(2 : Int32), (1 : Int32)] [va, vb] [vp, vp] [(((0 : Int64) + vp) + (((0 : Int64) + vp) + (0 : Int64))), (((0 : Int64) + vp) + (0 : Int64))]) (hc : va = vb) :
    MetFree l own_y17 (head1 (Jvm.Cond.code own_y17 prog_66_method_9_code 3 (some .boolean) :: ws) ({ frames := 0, cells := 0, slots := 0, locals := 0 } : Room)) (fun aR U => aR = #[(.ref a), (.int (0 : Int32)), (.int (1 : Int32))] ∧ Z.Warmed39 U.vm ∧ U.heap = h0) (fun _ _ _ _ _ => True) (fun _ U o U' => ∃ v L, o = .returned v ∧ Q61 Z a a1_ a2_ a3_ a4_ a5_ a6_ a7_ a8_ a9_ a10_ a11_ va vb vp h0 n0 v U'.heap L ∧ FrameEnd U o U' L ({ frames := 0, cells := 0, slots := 0, locals := 0 } : Room).cells ({ frames := 0, cells := 0, slots := 0, locals := 0 } : Room).slots) := by
  refine MetFree.of_bodySF pf_17 hisR ?_
  intro p e s m args below meth c s₁ Bd hml0 hP hK
  obtain ⟨rfl, hZ, hhE⟩ := hP
  have hx := Bd.exec
  have hby := Bd.bytes
  have hml : c.maxLocals = 3 := hml0
  have hown : s.vm.findClass "com/example/equitide/equitide/policy/backfilling/PlannedEnds" = some m.cls := findClass_of_methodNamed Bd.named
  have hnm := (name_of_methodNamed Bd.named Bd.method).1
  have X0 : Stand p l e ({ frames := 0, cells := 0, slots := 0, locals := 0 } : Room) s m #[(.ref a), (.int (0 : Int32)), (.int (1 : Int32))] below meth c s₁ [] 0 0 := Stand.of_body Bd
  have e0 : s₁.heap = h0 := by rw [← hhE, Bd.state]; rfl
  have N0 := Fr.nil n0
  show own_Go p e below (own_Post s (Q61 Z a a1_ a2_ a3_ a4_ a5_ a6_ a7_ a8_ a9_ a10_ a11_ va vb vp h0 n0) ({ frames := 0, cells := 0, slots := 0, locals := 0 } : Room).cells ({ frames := 0, cells := 0, slots := 0, locals := 0 } : Room).slots) (s₁.setTop (entryFrame m #[(.ref a), (.int (0 : Int32)), (.int (1 : Int32))] 3))
  rw [ef_rm61]
  generalize hG : own_Post s (Q61 Z a a1_ a2_ a3_ a4_ a5_ a6_ a7_ a8_ a9_ a10_ a11_ va vb vp h0 n0) ({ frames := 0, cells := 0, slots := 0, locals := 0 } : Room).cells ({ frames := 0, cells := 0, slots := 0, locals := 0 } : Room).slots = G
  obtain ⟨o1, o2, o3, o4, o5, o6, o7, o8, o9, o10, o11⟩ := id hord
  obtain ⟨E0, F0_0, F1_0, F2_0, F3_0, F4_0, F5_0, F6_0, F7_0, F8_0, F9_0, F10_0, F11_0, F12_0, F13_0, V0_0, V1_0, V2_0, V3_0, V4_0, V5_0, V6_0, V7_0, V8_0, V9_0, V10_0⟩ := B
  refine own_aloadN X0 hx (hb hby d17_0) rfl rfl 1 rfl ?_
  refine own_getF X0 hx hZ hown (own_w hw 40 rfl) Via.refl e0 F11_0 (hb hby d17_1) 4 rfl (fun T2140 X2140 e2140 => ?_)
  refine own_iloadN X2140 hx (hb hby d17_4) rfl 5 rfl ?_
  refine own_laload X2140 hx hZ e2140 V8_0 0 rfl va rfl (hb hby d17_5) 6 rfl ?_
  refine own_aloadN X2140 hx (hb hby d17_6) rfl rfl 7 rfl ?_
  refine own_getF X2140 hx hZ hown (own_w hw 40 rfl) Via.refl e2140 F11_0 (hb hby d17_7) 10 rfl (fun T2141 X2141 e2141 => ?_)
  refine own_iloadN X2141 hx (hb hby d17_10) rfl 11 rfl ?_
  refine own_laload X2141 hx hZ e2141 V8_0 1 rfl vb rfl (hb hby d17_11) 12 rfl ?_
  refine own_lcmp X2141 hx (hb hby d17_12) 13 rfl ?_
  refine own_ifY X2141 hx (hb hby d17_13) (own_eqL hc).1 40 ⟨by decide, by decide⟩ ?_
  refine own_iloadN X2141 hx (hb hby d17_40) rfl 41 rfl ?_
  refine own_iloadN X2141 hx (hb hby d17_41) rfl 42 rfl ?_
  refine own_icmpN X2141 hx (hb hby d17_42) (tlt (by decide)).2.1 45 rfl ?_
  refine own_iconst X2141 hx (hb hby d17_45) (1 : Int32) rfl 46 rfl ?_
  refine own_goto X2141 hx (hb hby d17_46) 50 ⟨by decide, by decide⟩ ?_
  refine own_nreturn X2141 hx Bd.notSynchronized hG Bd.returns (by simp) (hb hby d17_50) (by decide) (by decide) ?_
  rw [e2141]
  exact ⟨rfl, N0, rfl⟩
def Q62 (Z : State) (a a1_ a2_ a3_ a4_ a5_ a6_ a7_ a8_ a9_ a10_ a11_ : Addr) (va vb vp : Int64) (h0 : Heap) (n0 : Nat) (v : Option Value) (h : Heap) (L : List Loc) : Prop := v = some (.int (0 : Int32)) ∧ Fr n0 L ∧ h = h0
theorem ef_rm62 (m : MethodId) (x0 : Addr) (x1 : Int32) (x2 : Int32) : entryFrame m #[(.ref x0), (.int x1), (.int x2)] 3 = mkF m 0 #[.val (.ref x0), .val (.int x1), .val (.int x2)] [] := by first | (simp [entryFrame, mkF, argsToLocals, Value.category, maxLocals]; done) | rfl
set_option maxRecDepth 65536 in
set_option maxHeartbeats 40000000 in
theorem rm62 (l : Launch) (Z : State) (a0 : Array Value) (hw : ∀ d ∈ tables_1, d.before a0 Z = true) (ws : List Jvm.Cond) (a a1_ a2_ a3_ a4_ a5_ a6_ a7_ a8_ a9_ a10_ a11_ : Addr) (va vb vp : Int64) (h0 : Heap) (n0 : Nat) (Z0 : n0 ≤ h0.size) (ga : n0 ≤ a) (hord : own_Or a a1_ a2_ a3_ a4_ a5_ a6_ a7_ a8_ a9_ a10_ a11_) (B : own_PE Z h0 a a1_ a2_ a3_ a4_ a5_ a6_ a7_ a8_ a9_ a10_ a11_ (0 : Int32) (0 : Int32) (2 : Int32) ((List.replicate 127 (0 : Int32)).set 0 (0 : Int32)) ((List.replicate 127 (0 : Int32)).set 0 (1 : Int32)) [(0 : Int32), (1 : Int32)] [(1 : Int32), (0 : Int32)] [(-1 : Int32), (-1 : Int32)] [(1 : Int32), (-1 : Int32)] [(2 : Int32), (1 : Int32)] [va, vb] [vp, vp] [(((0 : Int64) + vp) + (((0 : Int64) + vp) + (0 : Int64))), (((0 : Int64) + vp) + (0 : Int64))]) (hc : va = vb) :
    MetFree l own_y17 (head1 (Jvm.Cond.code own_y17 prog_66_method_9_code 3 (some .boolean) :: ws) ({ frames := 0, cells := 0, slots := 0, locals := 0 } : Room)) (fun aR U => aR = #[(.ref a), (.int (1 : Int32)), (.int (0 : Int32))] ∧ Z.Warmed39 U.vm ∧ U.heap = h0) (fun _ _ _ _ _ => True) (fun _ U o U' => ∃ v L, o = .returned v ∧ Q62 Z a a1_ a2_ a3_ a4_ a5_ a6_ a7_ a8_ a9_ a10_ a11_ va vb vp h0 n0 v U'.heap L ∧ FrameEnd U o U' L ({ frames := 0, cells := 0, slots := 0, locals := 0 } : Room).cells ({ frames := 0, cells := 0, slots := 0, locals := 0 } : Room).slots) := by
  refine MetFree.of_bodySF pf_17 hisR ?_
  intro p e s m args below meth c s₁ Bd hml0 hP hK
  obtain ⟨rfl, hZ, hhE⟩ := hP
  have hx := Bd.exec
  have hby := Bd.bytes
  have hml : c.maxLocals = 3 := hml0
  have hown : s.vm.findClass "com/example/equitide/equitide/policy/backfilling/PlannedEnds" = some m.cls := findClass_of_methodNamed Bd.named
  have hnm := (name_of_methodNamed Bd.named Bd.method).1
  have X0 : Stand p l e ({ frames := 0, cells := 0, slots := 0, locals := 0 } : Room) s m #[(.ref a), (.int (1 : Int32)), (.int (0 : Int32))] below meth c s₁ [] 0 0 := Stand.of_body Bd
  have e0 : s₁.heap = h0 := by rw [← hhE, Bd.state]; rfl
  have N0 := Fr.nil n0
  show own_Go p e below (own_Post s (Q62 Z a a1_ a2_ a3_ a4_ a5_ a6_ a7_ a8_ a9_ a10_ a11_ va vb vp h0 n0) ({ frames := 0, cells := 0, slots := 0, locals := 0 } : Room).cells ({ frames := 0, cells := 0, slots := 0, locals := 0 } : Room).slots) (s₁.setTop (entryFrame m #[(.ref a), (.int (1 : Int32)), (.int (0 : Int32))] 3))
  rw [ef_rm62]
  generalize hG : own_Post s (Q62 Z a a1_ a2_ a3_ a4_ a5_ a6_ a7_ a8_ a9_ a10_ a11_ va vb vp h0 n0) ({ frames := 0, cells := 0, slots := 0, locals := 0 } : Room).cells ({ frames := 0, cells := 0, slots := 0, locals := 0 } : Room).slots = G
  obtain ⟨o1, o2, o3, o4, o5, o6, o7, o8, o9, o10, o11⟩ := id hord
  obtain ⟨E0, F0_0, F1_0, F2_0, F3_0, F4_0, F5_0, F6_0, F7_0, F8_0, F9_0, F10_0, F11_0, F12_0, F13_0, V0_0, V1_0, V2_0, V3_0, V4_0, V5_0, V6_0, V7_0, V8_0, V9_0, V10_0⟩ := B
  refine own_aloadN X0 hx (hb hby d17_0) rfl rfl 1 rfl ?_
  refine own_getF X0 hx hZ hown (own_w hw 40 rfl) Via.refl e0 F11_0 (hb hby d17_1) 4 rfl (fun T2144 X2144 e2144 => ?_)
  refine own_iloadN X2144 hx (hb hby d17_4) rfl 5 rfl ?_
  refine own_laload X2144 hx hZ e2144 V8_0 1 rfl vb rfl (hb hby d17_5) 6 rfl ?_
  refine own_aloadN X2144 hx (hb hby d17_6) rfl rfl 7 rfl ?_
  refine own_getF X2144 hx hZ hown (own_w hw 40 rfl) Via.refl e2144 F11_0 (hb hby d17_7) 10 rfl (fun T2145 X2145 e2145 => ?_)
  refine own_iloadN X2145 hx (hb hby d17_10) rfl 11 rfl ?_
  refine own_laload X2145 hx hZ e2145 V8_0 0 rfl va rfl (hb hby d17_11) 12 rfl ?_
  refine own_lcmp X2145 hx (hb hby d17_12) 13 rfl ?_
  refine own_ifY X2145 hx (hb hby d17_13) (own_eqL hc.symm).1 40 ⟨by decide, by decide⟩ ?_
  refine own_iloadN X2145 hx (hb hby d17_40) rfl 41 rfl ?_
  refine own_iloadN X2145 hx (hb hby d17_41) rfl 42 rfl ?_
  refine own_icmpY X2145 hx (hb hby d17_42) (flt (by decide)).2.1 49 ⟨by decide, by decide⟩ ?_
  refine own_iconst X2145 hx (hb hby d17_49) (0 : Int32) rfl 50 rfl ?_
  refine own_nreturn X2145 hx Bd.notSynchronized hG Bd.returns (by simp) (hb hby d17_50) (by decide) (by decide) ?_
  rw [e2145]
  exact ⟨rfl, N0, rfl⟩
def Q63 (Z : State) (a a1_ a2_ a3_ a4_ a5_ a6_ a7_ a8_ a9_ a10_ a11_ : Addr) (va vb vp : Int64) (h0 : Heap) (n0 : Nat) (v : Option Value) (h : Heap) (L : List Loc) : Prop := v = some (.int (0 : Int32)) ∧ Fr n0 L ∧ h = h0
theorem ef_rm63 (m : MethodId) (x0 : Addr) (x1 : Int32) (x2 : Int32) : entryFrame m #[(.ref x0), (.int x1), (.int x2)] 3 = mkF m 0 #[.val (.ref x0), .val (.int x1), .val (.int x2)] [] := by first | (simp [entryFrame, mkF, argsToLocals, Value.category, maxLocals]; done) | rfl
set_option maxRecDepth 65536 in
set_option maxHeartbeats 40000000 in
theorem rm63 (l : Launch) (Z : State) (a0 : Array Value) (hw : ∀ d ∈ tables_1, d.before a0 Z = true) (ws : List Jvm.Cond) (a a1_ a2_ a3_ a4_ a5_ a6_ a7_ a8_ a9_ a10_ a11_ : Addr) (va vb vp : Int64) (h0 : Heap) (n0 : Nat) (Z0 : n0 ≤ h0.size) (ga : n0 ≤ a) (hord : own_Or a a1_ a2_ a3_ a4_ a5_ a6_ a7_ a8_ a9_ a10_ a11_) (B : own_PE Z h0 a a1_ a2_ a3_ a4_ a5_ a6_ a7_ a8_ a9_ a10_ a11_ (0 : Int32) (0 : Int32) (2 : Int32) ((List.replicate 127 (0 : Int32)).set 0 (0 : Int32)) ((List.replicate 127 (0 : Int32)).set 0 (1 : Int32)) [(0 : Int32), (1 : Int32)] [(1 : Int32), (0 : Int32)] [(-1 : Int32), (-1 : Int32)] [(1 : Int32), (-1 : Int32)] [(2 : Int32), (1 : Int32)] [va, vb] [vp, vp] [(((0 : Int64) + vp) + (((0 : Int64) + vp) + (0 : Int64))), (((0 : Int64) + vp) + (0 : Int64))]) (hc : va = vb) :
    MetFree l own_y17 (head1 (Jvm.Cond.code own_y17 prog_66_method_9_code 3 (some .boolean) :: ws) ({ frames := 0, cells := 0, slots := 0, locals := 0 } : Room)) (fun aR U => aR = #[(.ref a), (.int (0 : Int32)), (.int (0 : Int32))] ∧ Z.Warmed39 U.vm ∧ U.heap = h0) (fun _ _ _ _ _ => True) (fun _ U o U' => ∃ v L, o = .returned v ∧ Q63 Z a a1_ a2_ a3_ a4_ a5_ a6_ a7_ a8_ a9_ a10_ a11_ va vb vp h0 n0 v U'.heap L ∧ FrameEnd U o U' L ({ frames := 0, cells := 0, slots := 0, locals := 0 } : Room).cells ({ frames := 0, cells := 0, slots := 0, locals := 0 } : Room).slots) := by
  refine MetFree.of_bodySF pf_17 hisR ?_
  intro p e s m args below meth c s₁ Bd hml0 hP hK
  obtain ⟨rfl, hZ, hhE⟩ := hP
  have hx := Bd.exec
  have hby := Bd.bytes
  have hml : c.maxLocals = 3 := hml0
  have hown : s.vm.findClass "com/example/equitide/equitide/policy/backfilling/PlannedEnds" = some m.cls := findClass_of_methodNamed Bd.named
  have hnm := (name_of_methodNamed Bd.named Bd.method).1
  have X0 : Stand p l e ({ frames := 0, cells := 0, slots := 0, locals := 0 } : Room) s m #[(.ref a), (.int (0 : Int32)), (.int (0 : Int32))] below meth c s₁ [] 0 0 := Stand.of_body Bd
  have e0 : s₁.heap = h0 := by rw [← hhE, Bd.state]; rfl
  have N0 := Fr.nil n0
  show own_Go p e below (own_Post s (Q63 Z a a1_ a2_ a3_ a4_ a5_ a6_ a7_ a8_ a9_ a10_ a11_ va vb vp h0 n0) ({ frames := 0, cells := 0, slots := 0, locals := 0 } : Room).cells ({ frames := 0, cells := 0, slots := 0, locals := 0 } : Room).slots) (s₁.setTop (entryFrame m #[(.ref a), (.int (0 : Int32)), (.int (0 : Int32))] 3))
  rw [ef_rm63]
  generalize hG : own_Post s (Q63 Z a a1_ a2_ a3_ a4_ a5_ a6_ a7_ a8_ a9_ a10_ a11_ va vb vp h0 n0) ({ frames := 0, cells := 0, slots := 0, locals := 0 } : Room).cells ({ frames := 0, cells := 0, slots := 0, locals := 0 } : Room).slots = G
  obtain ⟨o1, o2, o3, o4, o5, o6, o7, o8, o9, o10, o11⟩ := id hord
  obtain ⟨E0, F0_0, F1_0, F2_0, F3_0, F4_0, F5_0, F6_0, F7_0, F8_0, F9_0, F10_0, F11_0, F12_0, F13_0, V0_0, V1_0, V2_0, V3_0, V4_0, V5_0, V6_0, V7_0, V8_0, V9_0, V10_0⟩ := B
  refine own_aloadN X0 hx (hb hby d17_0) rfl rfl 1 rfl ?_
  refine own_getF X0 hx hZ hown (own_w hw 40 rfl) Via.refl e0 F11_0 (hb hby d17_1) 4 rfl (fun T2148 X2148 e2148 => ?_)
  refine own_iloadN X2148 hx (hb hby d17_4) rfl 5 rfl ?_
  refine own_laload X2148 hx hZ e2148 V8_0 0 rfl va rfl (hb hby d17_5) 6 rfl ?_
  refine own_aloadN X2148 hx (hb hby d17_6) rfl rfl 7 rfl ?_
  refine own_getF X2148 hx hZ hown (own_w hw 40 rfl) Via.refl e2148 F11_0 (hb hby d17_7) 10 rfl (fun T2149 X2149 e2149 => ?_)
  refine own_iloadN X2149 hx (hb hby d17_10) rfl 11 rfl ?_
  refine own_laload X2149 hx hZ e2149 V8_0 0 rfl va rfl (hb hby d17_11) 12 rfl ?_
  refine own_lcmp X2149 hx (hb hby d17_12) 13 rfl ?_
  refine own_ifY X2149 hx (hb hby d17_13) (own_eqL rfl).1 40 ⟨by decide, by decide⟩ ?_
  refine own_iloadN X2149 hx (hb hby d17_40) rfl 41 rfl ?_
  refine own_iloadN X2149 hx (hb hby d17_41) rfl 42 rfl ?_
  refine own_icmpY X2149 hx (hb hby d17_42) (flt (by decide)).2.1 49 ⟨by decide, by decide⟩ ?_
  refine own_iconst X2149 hx (hb hby d17_49) (0 : Int32) rfl 50 rfl ?_
  refine own_nreturn X2149 hx Bd.notSynchronized hG Bd.returns (by simp) (hb hby d17_50) (by decide) (by decide) ?_
  rw [e2149]
  exact ⟨rfl, N0, rfl⟩
def Q64 (Z : State) (a a1_ a2_ a3_ a4_ a5_ a6_ a7_ a8_ a9_ a10_ a11_ : Addr) (va vb vp : Int64) (h0 : Heap) (n0 : Nat) (v : Option Value) (h : Heap) (L : List Loc) : Prop := v = some (.int (0 : Int32)) ∧ Fr n0 L ∧ h = h0
theorem ef_rm64 (m : MethodId) (x0 : Addr) (x1 : Int32) (x2 : Int32) : entryFrame m #[(.ref x0), (.int x1), (.int x2)] 3 = mkF m 0 #[.val (.ref x0), .val (.int x1), .val (.int x2)] [] := by first | (simp [entryFrame, mkF, argsToLocals, Value.category, maxLocals]; done) | rfl
set_option maxRecDepth 65536 in
set_option maxHeartbeats 40000000 in
theorem rm64 (l : Launch) (Z : State) (a0 : Array Value) (hw : ∀ d ∈ tables_1, d.before a0 Z = true) (ws : List Jvm.Cond) (a a1_ a2_ a3_ a4_ a5_ a6_ a7_ a8_ a9_ a10_ a11_ : Addr) (va vb vp : Int64) (h0 : Heap) (n0 : Nat) (Z0 : n0 ≤ h0.size) (ga : n0 ≤ a) (hord : own_Or a a1_ a2_ a3_ a4_ a5_ a6_ a7_ a8_ a9_ a10_ a11_) (B : own_PE Z h0 a a1_ a2_ a3_ a4_ a5_ a6_ a7_ a8_ a9_ a10_ a11_ (0 : Int32) (0 : Int32) (2 : Int32) ((List.replicate 127 (0 : Int32)).set 0 (0 : Int32)) ((List.replicate 127 (0 : Int32)).set 0 (1 : Int32)) [(0 : Int32), (1 : Int32)] [(1 : Int32), (0 : Int32)] [(-1 : Int32), (-1 : Int32)] [(1 : Int32), (-1 : Int32)] [(2 : Int32), (1 : Int32)] [va, vb] [vp, vp] [(((0 : Int64) + vp) + (((0 : Int64) + vp) + (0 : Int64))), (((0 : Int64) + vp) + (0 : Int64))]) (hc : va = vb) :
    MetFree l own_y17 (head1 (Jvm.Cond.code own_y17 prog_66_method_9_code 3 (some .boolean) :: ws) ({ frames := 0, cells := 0, slots := 0, locals := 0 } : Room)) (fun aR U => aR = #[(.ref a), (.int (1 : Int32)), (.int (1 : Int32))] ∧ Z.Warmed39 U.vm ∧ U.heap = h0) (fun _ _ _ _ _ => True) (fun _ U o U' => ∃ v L, o = .returned v ∧ Q64 Z a a1_ a2_ a3_ a4_ a5_ a6_ a7_ a8_ a9_ a10_ a11_ va vb vp h0 n0 v U'.heap L ∧ FrameEnd U o U' L ({ frames := 0, cells := 0, slots := 0, locals := 0 } : Room).cells ({ frames := 0, cells := 0, slots := 0, locals := 0 } : Room).slots) := by
  refine MetFree.of_bodySF pf_17 hisR ?_
  intro p e s m args below meth c s₁ Bd hml0 hP hK
  obtain ⟨rfl, hZ, hhE⟩ := hP
  have hx := Bd.exec
  have hby := Bd.bytes
  have hml : c.maxLocals = 3 := hml0
  have hown : s.vm.findClass "com/example/equitide/equitide/policy/backfilling/PlannedEnds" = some m.cls := findClass_of_methodNamed Bd.named
  have hnm := (name_of_methodNamed Bd.named Bd.method).1
  have X0 : Stand p l e ({ frames := 0, cells := 0, slots := 0, locals := 0 } : Room) s m #[(.ref a), (.int (1 : Int32)), (.int (1 : Int32))] below meth c s₁ [] 0 0 := Stand.of_body Bd
  have e0 : s₁.heap = h0 := by rw [← hhE, Bd.state]; rfl
  have N0 := Fr.nil n0
  show own_Go p e below (own_Post s (Q64 Z a a1_ a2_ a3_ a4_ a5_ a6_ a7_ a8_ a9_ a10_ a11_ va vb vp h0 n0) ({ frames := 0, cells := 0, slots := 0, locals := 0 } : Room).cells ({ frames := 0, cells := 0, slots := 0, locals := 0 } : Room).slots) (s₁.setTop (entryFrame m #[(.ref a), (.int (1 : Int32)), (.int (1 : Int32))] 3))
  rw [ef_rm64]
  generalize hG : own_Post s (Q64 Z a a1_ a2_ a3_ a4_ a5_ a6_ a7_ a8_ a9_ a10_ a11_ va vb vp h0 n0) ({ frames := 0, cells := 0, slots := 0, locals := 0 } : Room).cells ({ frames := 0, cells := 0, slots := 0, locals := 0 } : Room).slots = G
  obtain ⟨o1, o2, o3, o4, o5, o6, o7, o8, o9, o10, o11⟩ := id hord
  obtain ⟨E0, F0_0, F1_0, F2_0, F3_0, F4_0, F5_0, F6_0, F7_0, F8_0, F9_0, F10_0, F11_0, F12_0, F13_0, V0_0, V1_0, V2_0, V3_0, V4_0, V5_0, V6_0, V7_0, V8_0, V9_0, V10_0⟩ := B
  refine own_aloadN X0 hx (hb hby d17_0) rfl rfl 1 rfl ?_
  refine own_getF X0 hx hZ hown (own_w hw 40 rfl) Via.refl e0 F11_0 (hb hby d17_1) 4 rfl (fun T2152 X2152 e2152 => ?_)
  refine own_iloadN X2152 hx (hb hby d17_4) rfl 5 rfl ?_
  refine own_laload X2152 hx hZ e2152 V8_0 1 rfl vb rfl (hb hby d17_5) 6 rfl ?_
  refine own_aloadN X2152 hx (hb hby d17_6) rfl rfl 7 rfl ?_
  refine own_getF X2152 hx hZ hown (own_w hw 40 rfl) Via.refl e2152 F11_0 (hb hby d17_7) 10 rfl (fun T2153 X2153 e2153 => ?_)
  refine own_iloadN X2153 hx (hb hby d17_10) rfl 11 rfl ?_
  refine own_laload X2153 hx hZ e2153 V8_0 1 rfl vb rfl (hb hby d17_11) 12 rfl ?_
  refine own_lcmp X2153 hx (hb hby d17_12) 13 rfl ?_
  refine own_ifY X2153 hx (hb hby d17_13) (own_eqL rfl).1 40 ⟨by decide, by decide⟩ ?_
  refine own_iloadN X2153 hx (hb hby d17_40) rfl 41 rfl ?_
  refine own_iloadN X2153 hx (hb hby d17_41) rfl 42 rfl ?_
  refine own_icmpY X2153 hx (hb hby d17_42) (flt (by decide)).2.1 49 ⟨by decide, by decide⟩ ?_
  refine own_iconst X2153 hx (hb hby d17_49) (0 : Int32) rfl 50 rfl ?_
  refine own_nreturn X2153 hx Bd.notSynchronized hG Bd.returns (by simp) (hb hby d17_50) (by decide) (by decide) ?_
  rw [e2153]
  exact ⟨rfl, N0, rfl⟩
def Q67 (Z : State) (a a1_ a2_ a3_ a4_ a5_ a6_ a7_ a8_ a9_ a10_ a11_ : Addr) (va vb vp : Int64) (h0 : Heap) (n0 : Nat) (v : Option Value) (h : Heap) (L : List Loc) : Prop := v = some (.int (1 : Int32)) ∧ Fr n0 L ∧ n0 ≤ h.size ∧ own_PE Z h a a1_ a2_ a3_ a4_ a5_ a6_ a7_ a8_ a9_ a10_ a11_ (0 : Int32) (0 : Int32) (1 : Int32) (List.replicate 127 (0 : Int32)) (List.replicate 127 (0 : Int32)) [(0 : Int32), (0 : Int32)] [(1 : Int32), (0 : Int32)] [(-1 : Int32), (-1 : Int32)] [(-1 : Int32), (-1 : Int32)] [(1 : Int32), (0 : Int32)] [va, (0 : Int64)] [vp, (0 : Int64)] [(((0 : Int64) + vp) + (0 : Int64)), (0 : Int64)]
theorem ef_rm67 (m : MethodId) (x0 : Addr) : entryFrame m #[(.ref x0)] 2 = mkF m 0 #[.val (.ref x0), .unset] [] := by first | (simp [entryFrame, mkF, argsToLocals, Value.category, maxLocals]; done) | rfl
set_option maxRecDepth 65536 in
set_option maxHeartbeats 40000000 in
theorem rm67 (l : Launch) (Z : State) (a0 : Array Value) (hw : ∀ d ∈ tables_1, d.before a0 Z = true) (ws : List Jvm.Cond) (a a1_ a2_ a3_ a4_ a5_ a6_ a7_ a8_ a9_ a10_ a11_ : Addr) (va vb vp : Int64) (h0 : Heap) (n0 : Nat) (Z0 : n0 ≤ h0.size) (ga : n0 ≤ a) (hord : own_Or a a1_ a2_ a3_ a4_ a5_ a6_ a7_ a8_ a9_ a10_ a11_) (B : own_PE Z h0 a a1_ a2_ a3_ a4_ a5_ a6_ a7_ a8_ a9_ a10_ a11_ (0 : Int32) (1 : Int32) (1 : Int32) (List.replicate 127 (0 : Int32)) (List.replicate 127 (0 : Int32)) [(0 : Int32), (0 : Int32)] [(1 : Int32), (0 : Int32)] [(-1 : Int32), (0 : Int32)] [(-1 : Int32), (0 : Int32)] [(1 : Int32), (0 : Int32)] [va, (0 : Int64)] [vp, (0 : Int64)] [(((0 : Int64) + vp) + (0 : Int64)), (0 : Int64)]) (hc : vb < va) :
    MetFree l own_y6 (head1 (Jvm.Cond.code own_y6 prog_49_method_11_code 2 (some .int) :: ws) ({ frames := 0, cells := 0, slots := 0, locals := 0 } : Room)) (fun aR U => aR = #[(.ref a)] ∧ Z.Warmed39 U.vm ∧ U.heap = h0) (fun _ _ _ _ _ => True) (fun _ U o U' => ∃ v L, o = .returned v ∧ Q67 Z a a1_ a2_ a3_ a4_ a5_ a6_ a7_ a8_ a9_ a10_ a11_ va vb vp h0 n0 v U'.heap L ∧ FrameEnd U o U' L ({ frames := 0, cells := 0, slots := 0, locals := 0 } : Room).cells ({ frames := 0, cells := 0, slots := 0, locals := 0 } : Room).slots) := by
  refine MetFree.of_bodySF pf_6 hisR ?_
  intro p e s m args below meth c s₁ Bd hml0 hP hK
  obtain ⟨rfl, hZ, hhE⟩ := hP
  have hx := Bd.exec
  have hby := Bd.bytes
  have hml : c.maxLocals = 2 := hml0
  have hown : s.vm.findClass "com/example/equitide/equitide/policy/backfilling/AvlTree" = some m.cls := findClass_of_methodNamed Bd.named
  have hnm := (name_of_methodNamed Bd.named Bd.method).1
  have X0 : Stand p l e ({ frames := 0, cells := 0, slots := 0, locals := 0 } : Room) s m #[(.ref a)] below meth c s₁ [] 0 0 := Stand.of_body Bd
  have e0 : s₁.heap = h0 := by rw [← hhE, Bd.state]; rfl
  have N0 := Fr.nil n0
  show own_Go p e below (own_Post s (Q67 Z a a1_ a2_ a3_ a4_ a5_ a6_ a7_ a8_ a9_ a10_ a11_ va vb vp h0 n0) ({ frames := 0, cells := 0, slots := 0, locals := 0 } : Room).cells ({ frames := 0, cells := 0, slots := 0, locals := 0 } : Room).slots) (s₁.setTop (entryFrame m #[(.ref a)] 2))
  rw [ef_rm67]
  generalize hG : own_Post s (Q67 Z a a1_ a2_ a3_ a4_ a5_ a6_ a7_ a8_ a9_ a10_ a11_ va vb vp h0 n0) ({ frames := 0, cells := 0, slots := 0, locals := 0 } : Room).cells ({ frames := 0, cells := 0, slots := 0, locals := 0 } : Room).slots = G
  obtain ⟨o1, o2, o3, o4, o5, o6, o7, o8, o9, o10, o11⟩ := id hord
  obtain ⟨E0, F0_0, F1_0, F2_0, F3_0, F4_0, F5_0, F6_0, F7_0, F8_0, F9_0, F10_0, F11_0, F12_0, F13_0, V0_0, V1_0, V2_0, V3_0, V4_0, V5_0, V6_0, V7_0, V8_0, V9_0, V10_0⟩ := B
  refine own_aloadN X0 hx (hb hby d6_0) rfl rfl 1 rfl ?_
  refine own_getF X0 hx hZ hown (own_w hw 23 rfl) Via.refl e0 F6_0 (hb hby d6_1) 4 rfl (fun T2156 X2156 e2156 => ?_)
  refine own_aloadN X2156 hx (hb hby d6_4) rfl rfl 5 rfl ?_
  refine own_dup X2156 hx (hb hby d6_5) rfl 6 rfl ?_
  refine own_getF X2156 hx hZ hown (own_w hw 25 rfl) Via.refl e2156 F1_0 (hb hby d6_6) 9 rfl (fun T2157 X2157 e2157 => ?_)
  refine own_iconst X2157 hx (hb hby d6_9) (1 : Int32) rfl 10 rfl ?_
  refine own_isub X2157 hx (hb hby d6_10) 11 rfl ?_
  show own_Go p e below G (T2157.setTop (mkF m 11 #[.val (.ref a), .unset] [(.int (0 : Int32)), (.ref a), (.ref a4_)]))
  refine own_dupX1 X2157 hx (hb hby d6_11) rfl rfl 12 rfl ?_
  refine own_putF X2157 hx hZ hown (own_w hw 25 rfl) Via.refl e2157 F1_0 E0 (Or.inl (own_w hw 26 rfl)) (own_w hw 1 rfl) (ty := .int) (v' := (.int (0 : Int32))) (by decide) rfl rfl (hb hby d6_12) 15 rfl (fun T2158 h2158 X2158 e2158 W2158 => ?_)
  have N2159 := Fr.snoc X2158 N0 ga
  have Z2160 : n0 ≤ h2158.size := by rw [W2158.size]; exact Z0
  have E2161 := E0.wr W2158
  have F2162 := F0_0.other W2158 (Or.inr (sn_65 hw))
  have F2163 := F1_0.same W2158
  have F2164 := F2_0.other W2158 (Or.inr (sn_66 hw))
  have F2165 := F3_0.other W2158 (Or.inr (sn_67 hw))
  have F2166 := F4_0.other W2158 (Or.inr (sn_68 hw))
  have F2167 := F5_0.other W2158 (Or.inr (sn_69 hw))
  have F2168 := F6_0.other W2158 (Or.inr (sn_70 hw))
  have F2169 := F7_0.other W2158 (Or.inr (sn_71 hw))
  have F2170 := F8_0.other W2158 (Or.inr (sn_72 hw))
  have F2171 := F9_0.other W2158 (Or.inr (sn_73 hw))
  have F2172 := F10_0.other W2158 (Or.inr (sn_74 hw))
  have F2173 := F11_0.other W2158 (Or.inr (sn_75 hw))
  have F2174 := F12_0.other W2158 (Or.inr (sn_76 hw))
  have F2175 := F13_0.other W2158 (Or.inr (sn_77 hw))
  have V2176 := V0_0.other W2158 (Ne.symm (Nat.ne_of_lt (by omega)))
  have V2177 := V1_0.other W2158 (Ne.symm (Nat.ne_of_lt (by omega)))
  have V2178 := V2_0.other W2158 (Ne.symm (Nat.ne_of_lt (by omega)))
  have V2179 := V3_0.other W2158 (Ne.symm (Nat.ne_of_lt (by omega)))
  have V2180 := V4_0.other W2158 (Ne.symm (Nat.ne_of_lt (by omega)))
  have V2181 := V5_0.other W2158 (Ne.symm (Nat.ne_of_lt (by omega)))
  have V2182 := V6_0.other W2158 (Ne.symm (Nat.ne_of_lt (by omega)))
  have V2183 := V7_0.other W2158 (Ne.symm (Nat.ne_of_lt (by omega)))
  have V2184 := V8_0.other W2158 (Ne.symm (Nat.ne_of_lt (by omega)))
  have V2185 := V9_0.other W2158 (Ne.symm (Nat.ne_of_lt (by omega)))
  have V2186 := V10_0.other W2158 (Ne.symm (Nat.ne_of_lt (by omega)))
  refine own_iaload X2158 hx hZ e2158 V2179 0 rfl (1 : Int32) rfl (hb hby d6_15) 16 rfl ?_
  refine own_istoreN X2158 hx (hb hby d6_16) #[.val (.ref a), .val (.int (1 : Int32))] rfl 17 rfl ?_
  refine own_aloadN X2158 hx (hb hby d6_17) rfl rfl 18 rfl ?_
  refine own_getF X2158 hx hZ hown (own_w hw 27 rfl) Via.refl e2158 F2169 (hb hby d6_18) 21 rfl (fun T2187 X2187 e2187 => ?_)
  refine own_iloadN X2187 hx (hb hby d6_21) rfl 22 rfl ?_
  refine own_iconst X2187 hx (hb hby d6_22) (-1 : Int32) rfl 23 rfl ?_
  refine own_iastore X2187 hx hZ e2187 V2180 1 rfl (by simp) (hb hby d6_23) 24 rfl (fun T2188 h2188 X2188 e2188 W2188 V2188 => ?_)
  rw [show [(-1 : Int32), (0 : Int32)].set 1 (-1 : Int32) = [(-1 : Int32), (-1 : Int32)] from rfl] at V2188
  have N2189 := Fr.snoc X2188 N2159 (by omega)
  have Z2190 : n0 ≤ h2188.size := by rw [W2188.size]; exact Z2160
  have E2191 := E2161.wr W2188
  have F2192 := F2162.other W2188 (Or.inl (Nat.ne_of_lt (by omega)))
  have F2193 := F2163.other W2188 (Or.inl (Nat.ne_of_lt (by omega)))
  have F2194 := F2164.other W2188 (Or.inl (Nat.ne_of_lt (by omega)))
  have F2195 := F2165.other W2188 (Or.inl (Nat.ne_of_lt (by omega)))
  have F2196 := F2166.other W2188 (Or.inl (Nat.ne_of_lt (by omega)))
  have F2197 := F2167.other W2188 (Or.inl (Nat.ne_of_lt (by omega)))
  have F2198 := F2168.other W2188 (Or.inl (Nat.ne_of_lt (by omega)))
  have F2199 := F2169.other W2188 (Or.inl (Nat.ne_of_lt (by omega)))
  have F2200 := F2170.other W2188 (Or.inl (Nat.ne_of_lt (by omega)))
  have F2201 := F2171.other W2188 (Or.inl (Nat.ne_of_lt (by omega)))
  have F2202 := F2172.other W2188 (Or.inl (Nat.ne_of_lt (by omega)))
  have F2203 := F2173.other W2188 (Or.inl (Nat.ne_of_lt (by omega)))
  have F2204 := F2174.other W2188 (Or.inl (Nat.ne_of_lt (by omega)))
  have F2205 := F2175.other W2188 (Or.inl (Nat.ne_of_lt (by omega)))
  have V2206 := V2176.other W2188 (Nat.ne_of_lt (by omega))
  have V2207 := V2177.other W2188 (Nat.ne_of_lt (by omega))
  have V2208 := V2178.other W2188 (Nat.ne_of_lt (by omega))
  have V2209 := V2179.other W2188 (Nat.ne_of_lt (by omega))
  have V2210 := V2181.other W2188 (Ne.symm (Nat.ne_of_lt (by omega)))
  have V2211 := V2182.other W2188 (Ne.symm (Nat.ne_of_lt (by omega)))
  have V2212 := V2183.other W2188 (Ne.symm (Nat.ne_of_lt (by omega)))
  have V2213 := V2184.other W2188 (Ne.symm (Nat.ne_of_lt (by omega)))
  have V2214 := V2185.other W2188 (Ne.symm (Nat.ne_of_lt (by omega)))
  have V2215 := V2186.other W2188 (Ne.symm (Nat.ne_of_lt (by omega)))
  refine own_aloadN X2188 hx (hb hby d6_24) rfl rfl 25 rfl ?_
  refine own_getF X2188 hx hZ hown (own_w hw 29 rfl) Via.refl e2188 F2200 (hb hby d6_25) 28 rfl (fun T2216 X2216 e2216 => ?_)
  refine own_iloadN X2216 hx (hb hby d6_28) rfl 29 rfl ?_
  refine own_iconst X2216 hx (hb hby d6_29) (-1 : Int32) rfl 30 rfl ?_
  refine own_iastore X2216 hx hZ e2216 V2210 1 rfl (by simp) (hb hby d6_30) 31 rfl (fun T2217 h2217 X2217 e2217 W2217 V2217 => ?_)
  rw [show [(-1 : Int32), (0 : Int32)].set 1 (-1 : Int32) = [(-1 : Int32), (-1 : Int32)] from rfl] at V2217
  have N2218 := Fr.snoc X2217 N2189 (by omega)
  have Z2219 : n0 ≤ h2217.size := by rw [W2217.size]; exact Z2190
  have E2220 := E2191.wr W2217
  have F2221 := F2192.other W2217 (Or.inl (Nat.ne_of_lt (by omega)))
  have F2222 := F2193.other W2217 (Or.inl (Nat.ne_of_lt (by omega)))
  have F2223 := F2194.other W2217 (Or.inl (Nat.ne_of_lt (by omega)))
  have F2224 := F2195.other W2217 (Or.inl (Nat.ne_of_lt (by omega)))
  have F2225 := F2196.other W2217 (Or.inl (Nat.ne_of_lt (by omega)))
  have F2226 := F2197.other W2217 (Or.inl (Nat.ne_of_lt (by omega)))
  have F2227 := F2198.other W2217 (Or.inl (Nat.ne_of_lt (by omega)))
  have F2228 := F2199.other W2217 (Or.inl (Nat.ne_of_lt (by omega)))
  have F2229 := F2200.other W2217 (Or.inl (Nat.ne_of_lt (by omega)))
  have F2230 := F2201.other W2217 (Or.inl (Nat.ne_of_lt (by omega)))
  have F2231 := F2202.other W2217 (Or.inl (Nat.ne_of_lt (by omega)))
  have F2232 := F2203.other W2217 (Or.inl (Nat.ne_of_lt (by omega)))
  have F2233 := F2204.other W2217 (Or.inl (Nat.ne_of_lt (by omega)))
  have F2234 := F2205.other W2217 (Or.inl (Nat.ne_of_lt (by omega)))
  have V2235 := V2206.other W2217 (Nat.ne_of_lt (by omega))
  have V2236 := V2207.other W2217 (Nat.ne_of_lt (by omega))
  have V2237 := V2208.other W2217 (Nat.ne_of_lt (by omega))
  have V2238 := V2209.other W2217 (Nat.ne_of_lt (by omega))
  have V2239 := V2211.other W2217 (Ne.symm (Nat.ne_of_lt (by omega)))
  have V2240 := V2212.other W2217 (Ne.symm (Nat.ne_of_lt (by omega)))
  have V2241 := V2213.other W2217 (Ne.symm (Nat.ne_of_lt (by omega)))
  have V2242 := V2214.other W2217 (Ne.symm (Nat.ne_of_lt (by omega)))
  have V2243 := V2215.other W2217 (Ne.symm (Nat.ne_of_lt (by omega)))
  have V2244 := V2188.other W2217 (Nat.ne_of_lt (by omega))
  refine own_iloadN X2217 hx (hb hby d6_31) rfl 32 rfl ?_
  refine own_ireturn X2217 hx Bd.notSynchronized hG Bd.returns (hb hby d6_32) (by decide) (by decide) ?_
  rw [e2217]
  exact ⟨rfl, N2218, Z2219, ⟨E2220, F2221, F2222, F2223, F2224, F2225, F2226, F2227, F2228, F2229, F2230, F2231, F2232, F2233, F2234, V2235, V2236, V2237, V2238, V2244, V2217, V2239, V2240, V2241, V2242, V2243⟩⟩
def Q66 (Z : State) (a a1_ a2_ a3_ a4_ a5_ a6_ a7_ a8_ a9_ a10_ a11_ : Addr) (va vb vp : Int64) (h0 : Heap) (n0 : Nat) (v : Option Value) (h : Heap) (L : List Loc) : Prop := v = some (.int (1 : Int32)) ∧ Fr n0 L ∧ n0 ≤ h.size ∧ own_PE Z h a a1_ a2_ a3_ a4_ a5_ a6_ a7_ a8_ a9_ a10_ a11_ (0 : Int32) (0 : Int32) (1 : Int32) (List.replicate 127 (0 : Int32)) (List.replicate 127 (0 : Int32)) [(0 : Int32), (1 : Int32)] [(1 : Int32), (0 : Int32)] [(-1 : Int32), (-1 : Int32)] [(-1 : Int32), (-1 : Int32)] [(1 : Int32), (0 : Int32)] [va, (0 : Int64)] [vp, (0 : Int64)] [(((0 : Int64) + vp) + (0 : Int64)), (0 : Int64)]
theorem ef_rm66 (m : MethodId) (x0 : Addr) (x1 : Int32) : entryFrame m #[(.ref x0), (.int x1)] 3 = mkF m 0 #[.val (.ref x0), .val (.int x1), .unset] [] := by first | (simp [entryFrame, mkF, argsToLocals, Value.category, maxLocals]; done) | rfl
set_option maxRecDepth 65536 in
set_option maxHeartbeats 40000000 in
theorem rm66 (l : Launch) (Z : State) (a0 : Array Value) (hw : ∀ d ∈ tables_1, d.before a0 Z = true) (ws : List Jvm.Cond) (a a1_ a2_ a3_ a4_ a5_ a6_ a7_ a8_ a9_ a10_ a11_ : Addr) (va vb vp : Int64) (h0 : Heap) (n0 : Nat) (Z0 : n0 ≤ h0.size) (ga : n0 ≤ a) (hord : own_Or a a1_ a2_ a3_ a4_ a5_ a6_ a7_ a8_ a9_ a10_ a11_) (B : own_PE Z h0 a a1_ a2_ a3_ a4_ a5_ a6_ a7_ a8_ a9_ a10_ a11_ (0 : Int32) (1 : Int32) (1 : Int32) (List.replicate 127 (0 : Int32)) (List.replicate 127 (0 : Int32)) [(0 : Int32), (0 : Int32)] [(1 : Int32), (0 : Int32)] [(-1 : Int32), (0 : Int32)] [(-1 : Int32), (0 : Int32)] [(1 : Int32), (0 : Int32)] [va, (0 : Int64)] [vp, (0 : Int64)] [(((0 : Int64) + vp) + (0 : Int64)), (0 : Int64)]) (hc : vb < va) :
    MetFree l own_y5 (head1 (Jvm.Cond.code own_y5 prog_49_method_10_code 3 (some .int) :: ws) ({ frames := 1, cells := 0, slots := 0, locals := 13 } : Room)) (fun aR U => aR = #[(.ref a), (.int (1 : Int32))] ∧ Z.Warmed39 U.vm ∧ U.heap = h0) (fun _ _ _ _ _ => True) (fun _ U o U' => ∃ v L, o = .returned v ∧ Q66 Z a a1_ a2_ a3_ a4_ a5_ a6_ a7_ a8_ a9_ a10_ a11_ va vb vp h0 n0 v U'.heap L ∧ FrameEnd U o U' L ({ frames := 1, cells := 0, slots := 0, locals := 13 } : Room).cells ({ frames := 1, cells := 0, slots := 0, locals := 13 } : Room).slots) := by
  refine MetFree.of_bodySF pf_5 hisR ?_
  intro p e s m args below meth c s₁ Bd hml0 hP hK
  obtain ⟨rfl, hZ, hhE⟩ := hP
  have hx := Bd.exec
  have hby := Bd.bytes
  have hml : c.maxLocals = 3 := hml0
  have hown : s.vm.findClass "com/example/equitide/equitide/policy/backfilling/AvlTree" = some m.cls := findClass_of_methodNamed Bd.named
  have hnm := (name_of_methodNamed Bd.named Bd.method).1
  have X0 : Stand p l e ({ frames := 1, cells := 0, slots := 0, locals := 13 } : Room) s m #[(.ref a), (.int (1 : Int32))] below meth c s₁ [] 0 0 := Stand.of_body Bd
  have e0 : s₁.heap = h0 := by rw [← hhE, Bd.state]; rfl
  have N0 := Fr.nil n0
  show own_Go p e below (own_Post s (Q66 Z a a1_ a2_ a3_ a4_ a5_ a6_ a7_ a8_ a9_ a10_ a11_ va vb vp h0 n0) ({ frames := 1, cells := 0, slots := 0, locals := 13 } : Room).cells ({ frames := 1, cells := 0, slots := 0, locals := 13 } : Room).slots) (s₁.setTop (entryFrame m #[(.ref a), (.int (1 : Int32))] 3))
  rw [ef_rm66]
  generalize hG : own_Post s (Q66 Z a a1_ a2_ a3_ a4_ a5_ a6_ a7_ a8_ a9_ a10_ a11_ va vb vp h0 n0) ({ frames := 1, cells := 0, slots := 0, locals := 13 } : Room).cells ({ frames := 1, cells := 0, slots := 0, locals := 13 } : Room).slots = G
  obtain ⟨o1, o2, o3, o4, o5, o6, o7, o8, o9, o10, o11⟩ := id hord
  obtain ⟨E0, F0_0, F1_0, F2_0, F3_0, F4_0, F5_0, F6_0, F7_0, F8_0, F9_0, F10_0, F11_0, F12_0, F13_0, V0_0, V1_0, V2_0, V3_0, V4_0, V5_0, V6_0, V7_0, V8_0, V9_0, V10_0⟩ := B
  refine own_aloadN X0 hx (hb hby d5_0) rfl rfl 1 rfl ?_
  refine own_callV X0 hx hZ hown (own_w hw 57 rfl) (own_w hw 58 rfl) (own_w hw 60 rfl) (notFace_of_selects (args := #[]) (mvT hZ (own_w hw 60 rfl))) (own_w hw 59 rfl) (own_w hw 9 rfl) (own_w hw 61 rfl) (by decide) e0 E0 (rm67 l Z a0 hw [] a a1_ a2_ a3_ a4_ a5_ a6_ a7_ a8_ a9_ a10_ a11_ va vb vp h0 n0 Z0 ga hord ⟨E0, F0_0, F1_0, F2_0, F3_0, F4_0, F5_0, F6_0, F7_0, F8_0, F9_0, F10_0, F11_0, F12_0, F13_0, V0_0, V1_0, V2_0, V3_0, V4_0, V5_0, V6_0, V7_0, V8_0, V9_0, V10_0⟩ hc) (by rw [hml]; rfl) pd_1 (argsL := []) rfl (rest := []) rfl (hb hby d5_1) 0 (Nat.le_of_eq rfl) (by decide) (by decide) (by decide) (by decide) 4 rfl (fun T2245 L2245 v2245 X2245 hQ2245 => ?_)
  obtain ⟨rfl, N2245, Z2245, B2245⟩ := hQ2245
  have N2246 := Fr.app N0 N2245
  obtain ⟨E2245, F0_2245, F1_2245, F2_2245, F3_2245, F4_2245, F5_2245, F6_2245, F7_2245, F8_2245, F9_2245, F10_2245, F11_2245, F12_2245, F13_2245, V0_2245, V1_2245, V2_2245, V3_2245, V4_2245, V5_2245, V6_2245, V7_2245, V8_2245, V9_2245, V10_2245⟩ := B2245
  show own_Go p e below G (T2245.setTop (mkF m 4 #[.val (.ref a), .val (.int (1 : Int32)), .unset] [(.int (1 : Int32))]))
  refine own_istoreN X2245 hx (hb hby d5_4) #[.val (.ref a), .val (.int (1 : Int32)), .val (.int (1 : Int32))] rfl 5 rfl ?_
  refine own_aloadN X2245 hx (hb hby d5_5) rfl rfl 6 rfl ?_
  refine own_getF X2245 hx hZ hown (own_w hw 21 rfl) Via.refl (rfl : T2245.heap = T2245.heap) F5_2245 (hb hby d5_6) 9 rfl (fun T2247 X2247 e2247 => ?_)
  refine own_iloadN X2247 hx (hb hby d5_9) rfl 10 rfl ?_
  refine own_iloadN X2247 hx (hb hby d5_10) rfl 11 rfl ?_
  refine own_iastore X2247 hx hZ e2247 V2_2245 1 rfl (by simp) (hb hby d5_11) 12 rfl (fun T2248 h2248 X2248 e2248 W2248 V2248 => ?_)
  rw [show [(0 : Int32), (0 : Int32)].set 1 (1 : Int32) = [(0 : Int32), (1 : Int32)] from rfl] at V2248
  have N2249 := Fr.snoc X2248 N2246 (by omega)
  have Z2250 : n0 ≤ h2248.size := by rw [W2248.size]; exact Z2245
  have E2251 := E2245.wr W2248
  have F2252 := F0_2245.other W2248 (Or.inl (Nat.ne_of_lt (by omega)))
  have F2253 := F1_2245.other W2248 (Or.inl (Nat.ne_of_lt (by omega)))
  have F2254 := F2_2245.other W2248 (Or.inl (Nat.ne_of_lt (by omega)))
  have F2255 := F3_2245.other W2248 (Or.inl (Nat.ne_of_lt (by omega)))
  have F2256 := F4_2245.other W2248 (Or.inl (Nat.ne_of_lt (by omega)))
  have F2257 := F5_2245.other W2248 (Or.inl (Nat.ne_of_lt (by omega)))
  have F2258 := F6_2245.other W2248 (Or.inl (Nat.ne_of_lt (by omega)))
  have F2259 := F7_2245.other W2248 (Or.inl (Nat.ne_of_lt (by omega)))
  have F2260 := F8_2245.other W2248 (Or.inl (Nat.ne_of_lt (by omega)))
  have F2261 := F9_2245.other W2248 (Or.inl (Nat.ne_of_lt (by omega)))
  have F2262 := F10_2245.other W2248 (Or.inl (Nat.ne_of_lt (by omega)))
  have F2263 := F11_2245.other W2248 (Or.inl (Nat.ne_of_lt (by omega)))
  have F2264 := F12_2245.other W2248 (Or.inl (Nat.ne_of_lt (by omega)))
  have F2265 := F13_2245.other W2248 (Or.inl (Nat.ne_of_lt (by omega)))
  have V2266 := V0_2245.other W2248 (Nat.ne_of_lt (by omega))
  have V2267 := V1_2245.other W2248 (Nat.ne_of_lt (by omega))
  have V2268 := V3_2245.other W2248 (Ne.symm (Nat.ne_of_lt (by omega)))
  have V2269 := V4_2245.other W2248 (Ne.symm (Nat.ne_of_lt (by omega)))
  have V2270 := V5_2245.other W2248 (Ne.symm (Nat.ne_of_lt (by omega)))
  have V2271 := V6_2245.other W2248 (Ne.symm (Nat.ne_of_lt (by omega)))
  have V2272 := V7_2245.other W2248 (Ne.symm (Nat.ne_of_lt (by omega)))
  have V2273 := V8_2245.other W2248 (Ne.symm (Nat.ne_of_lt (by omega)))
  have V2274 := V9_2245.other W2248 (Ne.symm (Nat.ne_of_lt (by omega)))
  have V2275 := V10_2245.other W2248 (Ne.symm (Nat.ne_of_lt (by omega)))
  refine own_iloadN X2248 hx (hb hby d5_12) rfl 13 rfl ?_
  refine own_ireturn X2248 hx Bd.notSynchronized hG Bd.returns (hb hby d5_13) (by decide) (by decide) ?_
  rw [e2248]
  exact ⟨rfl, N2249, Z2250, ⟨E2251, F2252, F2253, F2254, F2255, F2256, F2257, F2258, F2259, F2260, F2261, F2262, F2263, F2264, F2265, V2266, V2267, V2248, V2268, V2269, V2270, V2271, V2272, V2273, V2274, V2275⟩⟩
def Q70 (Z : State) (a a1_ a2_ a3_ a4_ a5_ a6_ a7_ a8_ a9_ a10_ a11_ : Addr) (va vb vp : Int64) (h0 : Heap) (n0 : Nat) (v : Option Value) (h : Heap) (L : List Loc) : Prop := v = some (.int (0 : Int32)) ∧ Fr n0 L ∧ h = h0
theorem ef_rm70 (m : MethodId) (x0 : Addr) (x1 : Int32) : entryFrame m #[(.ref x0), (.int x1)] 2 = mkF m 0 #[.val (.ref x0), .val (.int x1)] [] := by first | (simp [entryFrame, mkF, argsToLocals, Value.category, maxLocals]; done) | rfl
set_option maxRecDepth 65536 in
set_option maxHeartbeats 40000000 in
theorem rm70 (l : Launch) (Z : State) (a0 : Array Value) (hw : ∀ d ∈ tables_1, d.before a0 Z = true) (ws : List Jvm.Cond) (a a1_ a2_ a3_ a4_ a5_ a6_ a7_ a8_ a9_ a10_ a11_ : Addr) (va vb vp : Int64) (h0 : Heap) (n0 : Nat) (Z0 : n0 ≤ h0.size) (ga : n0 ≤ a) (hord : own_Or a a1_ a2_ a3_ a4_ a5_ a6_ a7_ a8_ a9_ a10_ a11_) (B : own_PE Z h0 a a1_ a2_ a3_ a4_ a5_ a6_ a7_ a8_ a9_ a10_ a11_ (0 : Int32) (0 : Int32) (2 : Int32) (List.replicate 127 (0 : Int32)) (List.replicate 127 (0 : Int32)) [(0 : Int32), (1 : Int32)] [(1 : Int32), (0 : Int32)] [(-1 : Int32), (-1 : Int32)] [(-1 : Int32), (-1 : Int32)] [(1 : Int32), (0 : Int32)] [va, vb] [vp, vp] [(((0 : Int64) + vp) + (0 : Int64)), (0 : Int64)]) (hc : vb < va) :
    MetFree l own_y9 (head1 (Jvm.Cond.code own_y9 prog_49_method_28_code 2 (some .int) :: ws) ({ frames := 0, cells := 0, slots := 0, locals := 0 } : Room)) (fun aR U => aR = #[(.ref a), (.int (-1 : Int32))] ∧ Z.Warmed39 U.vm ∧ U.heap = h0) (fun _ _ _ _ _ => True) (fun _ U o U' => ∃ v L, o = .returned v ∧ Q70 Z a a1_ a2_ a3_ a4_ a5_ a6_ a7_ a8_ a9_ a10_ a11_ va vb vp h0 n0 v U'.heap L ∧ FrameEnd U o U' L ({ frames := 0, cells := 0, slots := 0, locals := 0 } : Room).cells ({ frames := 0, cells := 0, slots := 0, locals := 0 } : Room).slots) := by
  refine MetFree.of_bodySF pf_9 hisR ?_
  intro p e s m args below meth c s₁ Bd hml0 hP hK
  obtain ⟨rfl, hZ, hhE⟩ := hP
  have hx := Bd.exec
  have hby := Bd.bytes
  have hml : c.maxLocals = 2 := hml0
  have hown : s.vm.findClass "com/example/equitide/equitide/policy/backfilling/AvlTree" = some m.cls := findClass_of_methodNamed Bd.named
  have hnm := (name_of_methodNamed Bd.named Bd.method).1
  have X0 : Stand p l e ({ frames := 0, cells := 0, slots := 0, locals := 0 } : Room) s m #[(.ref a), (.int (-1 : Int32))] below meth c s₁ [] 0 0 := Stand.of_body Bd
  have e0 : s₁.heap = h0 := by rw [← hhE, Bd.state]; rfl
  have N0 := Fr.nil n0
  show own_Go p e below (own_Post s (Q70 Z a a1_ a2_ a3_ a4_ a5_ a6_ a7_ a8_ a9_ a10_ a11_ va vb vp h0 n0) ({ frames := 0, cells := 0, slots := 0, locals := 0 } : Room).cells ({ frames := 0, cells := 0, slots := 0, locals := 0 } : Room).slots) (s₁.setTop (entryFrame m #[(.ref a), (.int (-1 : Int32))] 2))
  rw [ef_rm70]
  generalize hG : own_Post s (Q70 Z a a1_ a2_ a3_ a4_ a5_ a6_ a7_ a8_ a9_ a10_ a11_ va vb vp h0 n0) ({ frames := 0, cells := 0, slots := 0, locals := 0 } : Room).cells ({ frames := 0, cells := 0, slots := 0, locals := 0 } : Room).slots = G
  obtain ⟨o1, o2, o3, o4, o5, o6, o7, o8, o9, o10, o11⟩ := id hord
  obtain ⟨E0, F0_0, F1_0, F2_0, F3_0, F4_0, F5_0, F6_0, F7_0, F8_0, F9_0, F10_0, F11_0, F12_0, F13_0, V0_0, V1_0, V2_0, V3_0, V4_0, V5_0, V6_0, V7_0, V8_0, V9_0, V10_0⟩ := B
  refine own_iloadN X0 hx (hb hby d9_0) rfl 1 rfl ?_
  refine own_iconst X0 hx (hb hby d9_1) (-1 : Int32) rfl 2 rfl ?_
  refine own_icmpN X0 hx (hb hby d9_2) (teq (by decide)).2 5 rfl ?_
  refine own_iconst X0 hx (hb hby d9_5) (0 : Int32) rfl 6 rfl ?_
  refine own_goto X0 hx (hb hby d9_6) 15 ⟨by decide, by decide⟩ ?_
  refine own_ireturn X0 hx Bd.notSynchronized hG Bd.returns (hb hby d9_15) (by decide) (by decide) ?_
  rw [e0]
  exact ⟨rfl, N0, rfl⟩
def Q72 (Z : State) (a a1_ a2_ a3_ a4_ a5_ a6_ a7_ a8_ a9_ a10_ a11_ : Addr) (va vb vp : Int64) (h0 : Heap) (n0 : Nat) (v : Option Value) (h : Heap) (L : List Loc) : Prop := v = some (.int (-1 : Int32)) ∧ Fr n0 L ∧ h = h0
theorem ef_rm72 (m : MethodId) (x0 : Addr) (x1 : Int32) : entryFrame m #[(.ref x0), (.int x1)] 2 = mkF m 0 #[.val (.ref x0), .val (.int x1)] [] := by first | (simp [entryFrame, mkF, argsToLocals, Value.category, maxLocals]; done) | rfl
set_option maxRecDepth 65536 in
set_option maxHeartbeats 40000000 in
theorem rm72 (l : Launch) (Z : State) (a0 : Array Value) (hw : ∀ d ∈ tables_1, d.before a0 Z = true) (ws : List Jvm.Cond) (a a1_ a2_ a3_ a4_ a5_ a6_ a7_ a8_ a9_ a10_ a11_ : Addr) (va vb vp : Int64) (h0 : Heap) (n0 : Nat) (Z0 : n0 ≤ h0.size) (ga : n0 ≤ a) (hord : own_Or a a1_ a2_ a3_ a4_ a5_ a6_ a7_ a8_ a9_ a10_ a11_) (B : own_PE Z h0 a a1_ a2_ a3_ a4_ a5_ a6_ a7_ a8_ a9_ a10_ a11_ (0 : Int32) (0 : Int32) (2 : Int32) (List.replicate 127 (0 : Int32)) (List.replicate 127 (0 : Int32)) [(0 : Int32), (1 : Int32)] [(1 : Int32), (0 : Int32)] [(-1 : Int32), (-1 : Int32)] [(-1 : Int32), (-1 : Int32)] [(1 : Int32), (1 : Int32)] [va, vb] [vp, vp] [(((0 : Int64) + vp) + (0 : Int64)), (0 : Int64)]) (hc : vb < va) :
    MetFree l own_y12 (head1 (Jvm.Cond.code own_y12 prog_49_method_7_code 2 (some .int) :: ws) ({ frames := 0, cells := 0, slots := 0, locals := 0 } : Room)) (fun aR U => aR = #[(.ref a), (.int (1 : Int32))] ∧ Z.Warmed39 U.vm ∧ U.heap = h0) (fun _ _ _ _ _ => True) (fun _ U o U' => ∃ v L, o = .returned v ∧ Q72 Z a a1_ a2_ a3_ a4_ a5_ a6_ a7_ a8_ a9_ a10_ a11_ va vb vp h0 n0 v U'.heap L ∧ FrameEnd U o U' L ({ frames := 0, cells := 0, slots := 0, locals := 0 } : Room).cells ({ frames := 0, cells := 0, slots := 0, locals := 0 } : Room).slots) := by
  refine MetFree.of_bodySF pf_12 hisR ?_
  intro p e s m args below meth c s₁ Bd hml0 hP hK
  obtain ⟨rfl, hZ, hhE⟩ := hP
  have hx := Bd.exec
  have hby := Bd.bytes
  have hml : c.maxLocals = 2 := hml0
  have hown : s.vm.findClass "com/example/equitide/equitide/policy/backfilling/AvlTree" = some m.cls := findClass_of_methodNamed Bd.named
  have hnm := (name_of_methodNamed Bd.named Bd.method).1
  have X0 : Stand p l e ({ frames := 0, cells := 0, slots := 0, locals := 0 } : Room) s m #[(.ref a), (.int (1 : Int32))] below meth c s₁ [] 0 0 := Stand.of_body Bd
  have e0 : s₁.heap = h0 := by rw [← hhE, Bd.state]; rfl
  have N0 := Fr.nil n0
  show own_Go p e below (own_Post s (Q72 Z a a1_ a2_ a3_ a4_ a5_ a6_ a7_ a8_ a9_ a10_ a11_ va vb vp h0 n0) ({ frames := 0, cells := 0, slots := 0, locals := 0 } : Room).cells ({ frames := 0, cells := 0, slots := 0, locals := 0 } : Room).slots) (s₁.setTop (entryFrame m #[(.ref a), (.int (1 : Int32))] 2))
  rw [ef_rm72]
  generalize hG : own_Post s (Q72 Z a a1_ a2_ a3_ a4_ a5_ a6_ a7_ a8_ a9_ a10_ a11_ va vb vp h0 n0) ({ frames := 0, cells := 0, slots := 0, locals := 0 } : Room).cells ({ frames := 0, cells := 0, slots := 0, locals := 0 } : Room).slots = G
  obtain ⟨o1, o2, o3, o4, o5, o6, o7, o8, o9, o10, o11⟩ := id hord
  obtain ⟨E0, F0_0, F1_0, F2_0, F3_0, F4_0, F5_0, F6_0, F7_0, F8_0, F9_0, F10_0, F11_0, F12_0, F13_0, V0_0, V1_0, V2_0, V3_0, V4_0, V5_0, V6_0, V7_0, V8_0, V9_0, V10_0⟩ := B
  refine own_aloadN X0 hx (hb hby d12_0) rfl rfl 1 rfl ?_
  refine own_getF X0 hx hZ hown (own_w hw 27 rfl) Via.refl e0 F7_0 (hb hby d12_1) 4 rfl (fun T2404 X2404 e2404 => ?_)
  refine own_iloadN X2404 hx (hb hby d12_4) rfl 5 rfl ?_
  refine own_iaload X2404 hx hZ e2404 V4_0 1 rfl (-1 : Int32) rfl (hb hby d12_5) 6 rfl ?_
  refine own_ireturn X2404 hx Bd.notSynchronized hG Bd.returns (hb hby d12_6) (by decide) (by decide) ?_
  rw [e2404]
  exact ⟨rfl, N0, rfl⟩
def Q73 (Z : State) (a a1_ a2_ a3_ a4_ a5_ a6_ a7_ a8_ a9_ a10_ a11_ : Addr) (va vb vp : Int64) (h0 : Heap) (n0 : Nat) (v : Option Value) (h : Heap) (L : List Loc) : Prop := v = some (.long (0 : Int64)) ∧ Fr n0 L ∧ h = h0
theorem ef_rm73 (m : MethodId) (x0 : Addr) (x1 : Int32) : entryFrame m #[(.ref x0), (.int x1)] 2 = mkF m 0 #[.val (.ref x0), .val (.int x1)] [] := by first | (simp [entryFrame, mkF, argsToLocals, Value.category, maxLocals]; done) | rfl
set_option maxRecDepth 65536 in
set_option maxHeartbeats 40000000 in
theorem rm73 (l : Launch) (Z : State) (a0 : Array Value) (hw : ∀ d ∈ tables_1, d.before a0 Z = true) (ws : List Jvm.Cond) (a a1_ a2_ a3_ a4_ a5_ a6_ a7_ a8_ a9_ a10_ a11_ : Addr) (va vb vp : Int64) (h0 : Heap) (n0 : Nat) (Z0 : n0 ≤ h0.size) (ga : n0 ≤ a) (hord : own_Or a a1_ a2_ a3_ a4_ a5_ a6_ a7_ a8_ a9_ a10_ a11_) (B : own_PE Z h0 a a1_ a2_ a3_ a4_ a5_ a6_ a7_ a8_ a9_ a10_ a11_ (0 : Int32) (0 : Int32) (2 : Int32) (List.replicate 127 (0 : Int32)) (List.replicate 127 (0 : Int32)) [(0 : Int32), (1 : Int32)] [(1 : Int32), (0 : Int32)] [(-1 : Int32), (-1 : Int32)] [(-1 : Int32), (-1 : Int32)] [(1 : Int32), (1 : Int32)] [va, vb] [vp, vp] [(((0 : Int64) + vp) + (0 : Int64)), (0 : Int64)]) (hc : vb < va) :
    MetFree l own_y13 (head1 (Jvm.Cond.code own_y13 prog_66_method_10_code 2 (some .long) :: ws) ({ frames := 0, cells := 0, slots := 0, locals := 0 } : Room)) (fun aR U => aR = #[(.ref a), (.int (-1 : Int32))] ∧ Z.Warmed39 U.vm ∧ U.heap = h0) (fun _ _ _ _ _ => True) (fun _ U o U' => ∃ v L, o = .returned v ∧ Q73 Z a a1_ a2_ a3_ a4_ a5_ a6_ a7_ a8_ a9_ a10_ a11_ va vb vp h0 n0 v U'.heap L ∧ FrameEnd U o U' L ({ frames := 0, cells := 0, slots := 0, locals := 0 } : Room).cells ({ frames := 0, cells := 0, slots := 0, locals := 0 } : Room).slots) := by
  refine MetFree.of_bodySF pf_13 hisR ?_
  intro p e s m args below meth c s₁ Bd hml0 hP hK
  obtain ⟨rfl, hZ, hhE⟩ := hP
  have hx := Bd.exec
  have hby := Bd.bytes
  have hml : c.maxLocals = 2 := hml0
  have hown : s.vm.findClass "com/example/equitide/equitide/policy/backfilling/PlannedEnds" = some m.cls := findClass_of_methodNamed Bd.named
  have hnm := (name_of_methodNamed Bd.named Bd.method).1
  have X0 : Stand p l e ({ frames := 0, cells := 0, slots := 0, locals := 0 } : Room) s m #[(.ref a), (.int (-1 : Int32))] below meth c s₁ [] 0 0 := Stand.of_body Bd
  have e0 : s₁.heap = h0 := by rw [← hhE, Bd.state]; rfl
  have N0 := Fr.nil n0
  show own_Go p e below (own_Post s (Q73 Z a a1_ a2_ a3_ a4_ a5_ a6_ a7_ a8_ a9_ a10_ a11_ va vb vp h0 n0) ({ frames := 0, cells := 0, slots := 0, locals := 0 } : Room).cells ({ frames := 0, cells := 0, slots := 0, locals := 0 } : Room).slots) (s₁.setTop (entryFrame m #[(.ref a), (.int (-1 : Int32))] 2))
  rw [ef_rm73]
  generalize hG : own_Post s (Q73 Z a a1_ a2_ a3_ a4_ a5_ a6_ a7_ a8_ a9_ a10_ a11_ va vb vp h0 n0) ({ frames := 0, cells := 0, slots := 0, locals := 0 } : Room).cells ({ frames := 0, cells := 0, slots := 0, locals := 0 } : Room).slots = G
  obtain ⟨o1, o2, o3, o4, o5, o6, o7, o8, o9, o10, o11⟩ := id hord
  obtain ⟨E0, F0_0, F1_0, F2_0, F3_0, F4_0, F5_0, F6_0, F7_0, F8_0, F9_0, F10_0, F11_0, F12_0, F13_0, V0_0, V1_0, V2_0, V3_0, V4_0, V5_0, V6_0, V7_0, V8_0, V9_0, V10_0⟩ := B
  refine own_iloadN X0 hx (hb hby d13_0) rfl 1 rfl ?_
  refine own_iconst X0 hx (hb hby d13_1) (-1 : Int32) rfl 2 rfl ?_
  refine own_icmpN X0 hx (hb hby d13_2) (teq (by decide)).2 5 rfl ?_
  refine own_lconst X0 hx (hb hby d13_5) (0 : Int64) rfl 6 rfl ?_
  refine own_goto X0 hx (hb hby d13_6) 15 ⟨by decide, by decide⟩ ?_
  refine own_lreturn X0 hx Bd.notSynchronized hG Bd.returns (hb hby d13_15) (by decide) (by decide) ?_
  rw [e0]
  exact ⟨rfl, N0, rfl⟩
def Q74 (Z : State) (a a1_ a2_ a3_ a4_ a5_ a6_ a7_ a8_ a9_ a10_ a11_ : Addr) (va vb vp : Int64) (h0 : Heap) (n0 : Nat) (v : Option Value) (h : Heap) (L : List Loc) : Prop := v = some (.int (-1 : Int32)) ∧ Fr n0 L ∧ h = h0
theorem ef_rm74 (m : MethodId) (x0 : Addr) (x1 : Int32) : entryFrame m #[(.ref x0), (.int x1)] 2 = mkF m 0 #[.val (.ref x0), .val (.int x1)] [] := by first | (simp [entryFrame, mkF, argsToLocals, Value.category, maxLocals]; done) | rfl
set_option maxRecDepth 65536 in
set_option maxHeartbeats 40000000 in
theorem rm74 (l : Launch) (Z : State) (a0 : Array Value) (hw : ∀ d ∈ tables_1, d.before a0 Z = true) (ws : List Jvm.Cond) (a a1_ a2_ a3_ a4_ a5_ a6_ a7_ a8_ a9_ a10_ a11_ : Addr) (va vb vp : Int64) (h0 : Heap) (n0 : Nat) (Z0 : n0 ≤ h0.size) (ga : n0 ≤ a) (hord : own_Or a a1_ a2_ a3_ a4_ a5_ a6_ a7_ a8_ a9_ a10_ a11_) (B : own_PE Z h0 a a1_ a2_ a3_ a4_ a5_ a6_ a7_ a8_ a9_ a10_ a11_ (0 : Int32) (0 : Int32) (2 : Int32) (List.replicate 127 (0 : Int32)) (List.replicate 127 (0 : Int32)) [(0 : Int32), (1 : Int32)] [(1 : Int32), (0 : Int32)] [(-1 : Int32), (-1 : Int32)] [(-1 : Int32), (-1 : Int32)] [(1 : Int32), (1 : Int32)] [va, vb] [vp, vp] [(((0 : Int64) + vp) + (0 : Int64)), (0 : Int64)]) (hc : vb < va) :
    MetFree l own_y14 (head1 (Jvm.Cond.code own_y14 prog_49_method_8_code 2 (some .int) :: ws) ({ frames := 0, cells := 0, slots := 0, locals := 0 } : Room)) (fun aR U => aR = #[(.ref a), (.int (1 : Int32))] ∧ Z.Warmed39 U.vm ∧ U.heap = h0) (fun _ _ _ _ _ => True) (fun _ U o U' => ∃ v L, o = .returned v ∧ Q74 Z a a1_ a2_ a3_ a4_ a5_ a6_ a7_ a8_ a9_ a10_ a11_ va vb vp h0 n0 v U'.heap L ∧ FrameEnd U o U' L ({ frames := 0, cells := 0, slots := 0, locals := 0 } : Room).cells ({ frames := 0, cells := 0, slots := 0, locals := 0 } : Room).slots) := by
  refine MetFree.of_bodySF pf_14 hisR ?_
  intro p e s m args below meth c s₁ Bd hml0 hP hK
  obtain ⟨rfl, hZ, hhE⟩ := hP
  have hx := Bd.exec
  have hby := Bd.bytes
  have hml : c.maxLocals = 2 := hml0
  have hown : s.vm.findClass "com/example/equitide/equitide/policy/backfilling/AvlTree" = some m.cls := findClass_of_methodNamed Bd.named
  have hnm := (name_of_methodNamed Bd.named Bd.method).1
  have X0 : Stand p l e ({ frames := 0, cells := 0, slots := 0, locals := 0 } : Room) s m #[(.ref a), (.int (1 : Int32))] below meth c s₁ [] 0 0 := Stand.of_body Bd
  have e0 : s₁.heap = h0 := by rw [← hhE, Bd.state]; rfl
  have N0 := Fr.nil n0
  show own_Go p e below (own_Post s (Q74 Z a a1_ a2_ a3_ a4_ a5_ a6_ a7_ a8_ a9_ a10_ a11_ va vb vp h0 n0) ({ frames := 0, cells := 0, slots := 0, locals := 0 } : Room).cells ({ frames := 0, cells := 0, slots := 0, locals := 0 } : Room).slots) (s₁.setTop (entryFrame m #[(.ref a), (.int (1 : Int32))] 2))
  rw [ef_rm74]
  generalize hG : own_Post s (Q74 Z a a1_ a2_ a3_ a4_ a5_ a6_ a7_ a8_ a9_ a10_ a11_ va vb vp h0 n0) ({ frames := 0, cells := 0, slots := 0, locals := 0 } : Room).cells ({ frames := 0, cells := 0, slots := 0, locals := 0 } : Room).slots = G
  obtain ⟨o1, o2, o3, o4, o5, o6, o7, o8, o9, o10, o11⟩ := id hord
  obtain ⟨E0, F0_0, F1_0, F2_0, F3_0, F4_0, F5_0, F6_0, F7_0, F8_0, F9_0, F10_0, F11_0, F12_0, F13_0, V0_0, V1_0, V2_0, V3_0, V4_0, V5_0, V6_0, V7_0, V8_0, V9_0, V10_0⟩ := B
  refine own_aloadN X0 hx (hb hby d14_0) rfl rfl 1 rfl ?_
  refine own_getF X0 hx hZ hown (own_w hw 29 rfl) Via.refl e0 F8_0 (hb hby d14_1) 4 rfl (fun T2410 X2410 e2410 => ?_)
  refine own_iloadN X2410 hx (hb hby d14_4) rfl 5 rfl ?_
  refine own_iaload X2410 hx hZ e2410 V5_0 1 rfl (-1 : Int32) rfl (hb hby d14_5) 6 rfl ?_
  refine own_ireturn X2410 hx Bd.notSynchronized hG Bd.returns (hb hby d14_6) (by decide) (by decide) ?_
  rw [e2410]
  exact ⟨rfl, N0, rfl⟩
def Q71 (Z : State) (a a1_ a2_ a3_ a4_ a5_ a6_ a7_ a8_ a9_ a10_ a11_ : Addr) (va vb vp : Int64) (h0 : Heap) (n0 : Nat) (v : Option Value) (h : Heap) (L : List Loc) : Prop := v = none ∧ Fr n0 L ∧ n0 ≤ h.size ∧ own_PE Z h a a1_ a2_ a3_ a4_ a5_ a6_ a7_ a8_ a9_ a10_ a11_ (0 : Int32) (0 : Int32) (2 : Int32) (List.replicate 127 (0 : Int32)) (List.replicate 127 (0 : Int32)) [(0 : Int32), (1 : Int32)] [(1 : Int32), (0 : Int32)] [(-1 : Int32), (-1 : Int32)] [(-1 : Int32), (-1 : Int32)] [(1 : Int32), (1 : Int32)] [va, vb] [vp, vp] [(((0 : Int64) + vp) + (0 : Int64)), (((0 : Int64) + vp) + (0 : Int64))]
theorem ef_rm71 (m : MethodId) (x0 : Addr) (x1 : Int32) : entryFrame m #[(.ref x0), (.int x1)] 2 = mkF m 0 #[.val (.ref x0), .val (.int x1)] [] := by first | (simp [entryFrame, mkF, argsToLocals, Value.category, maxLocals]; done) | rfl
set_option maxRecDepth 65536 in
set_option maxHeartbeats 40000000 in
theorem rm71 (l : Launch) (Z : State) (a0 : Array Value) (hw : ∀ d ∈ tables_1, d.before a0 Z = true) (ws : List Jvm.Cond) (a a1_ a2_ a3_ a4_ a5_ a6_ a7_ a8_ a9_ a10_ a11_ : Addr) (va vb vp : Int64) (h0 : Heap) (n0 : Nat) (Z0 : n0 ≤ h0.size) (ga : n0 ≤ a) (hord : own_Or a a1_ a2_ a3_ a4_ a5_ a6_ a7_ a8_ a9_ a10_ a11_) (B : own_PE Z h0 a a1_ a2_ a3_ a4_ a5_ a6_ a7_ a8_ a9_ a10_ a11_ (0 : Int32) (0 : Int32) (2 : Int32) (List.replicate 127 (0 : Int32)) (List.replicate 127 (0 : Int32)) [(0 : Int32), (1 : Int32)] [(1 : Int32), (0 : Int32)] [(-1 : Int32), (-1 : Int32)] [(-1 : Int32), (-1 : Int32)] [(1 : Int32), (1 : Int32)] [va, vb] [vp, vp] [(((0 : Int64) + vp) + (0 : Int64)), (0 : Int64)]) (hc : vb < va) :
    MetFree l own_y11 (head1 (Jvm.Cond.code own_y11 prog_66_method_8_code 2 none :: ws) ({ frames := 1, cells := 0, slots := 0, locals := 18 } : Room)) (fun aR U => aR = #[(.ref a), (.int (1 : Int32))] ∧ Z.Warmed39 U.vm ∧ U.heap = h0) (fun _ _ _ _ _ => True) (fun _ U o U' => ∃ v L, o = .returned v ∧ Q71 Z a a1_ a2_ a3_ a4_ a5_ a6_ a7_ a8_ a9_ a10_ a11_ va vb vp h0 n0 v U'.heap L ∧ FrameEnd U o U' L ({ frames := 1, cells := 0, slots := 0, locals := 18 } : Room).cells ({ frames := 1, cells := 0, slots := 0, locals := 18 } : Room).slots) := by
  refine MetFree.of_bodySF pf_11 hisR ?_
  intro p e s m args below meth c s₁ Bd hml0 hP hK
  obtain ⟨rfl, hZ, hhE⟩ := hP
  have hx := Bd.exec
  have hby := Bd.bytes
  have hml : c.maxLocals = 2 := hml0
  have hown : s.vm.findClass "com/example/equitide/equitide/policy/backfilling/PlannedEnds" = some m.cls := findClass_of_methodNamed Bd.named
  have hnm := (name_of_methodNamed Bd.named Bd.method).1
  have X0 : Stand p l e ({ frames := 1, cells := 0, slots := 0, locals := 18 } : Room) s m #[(.ref a), (.int (1 : Int32))] below meth c s₁ [] 0 0 := Stand.of_body Bd
  have e0 : s₁.heap = h0 := by rw [← hhE, Bd.state]; rfl
  have N0 := Fr.nil n0
  show own_Go p e below (own_Post s (Q71 Z a a1_ a2_ a3_ a4_ a5_ a6_ a7_ a8_ a9_ a10_ a11_ va vb vp h0 n0) ({ frames := 1, cells := 0, slots := 0, locals := 18 } : Room).cells ({ frames := 1, cells := 0, slots := 0, locals := 18 } : Room).slots) (s₁.setTop (entryFrame m #[(.ref a), (.int (1 : Int32))] 2))
  rw [ef_rm71]
  generalize hG : own_Post s (Q71 Z a a1_ a2_ a3_ a4_ a5_ a6_ a7_ a8_ a9_ a10_ a11_ va vb vp h0 n0) ({ frames := 1, cells := 0, slots := 0, locals := 18 } : Room).cells ({ frames := 1, cells := 0, slots := 0, locals := 18 } : Room).slots = G
  obtain ⟨o1, o2, o3, o4, o5, o6, o7, o8, o9, o10, o11⟩ := id hord
  obtain ⟨E0, F0_0, F1_0, F2_0, F3_0, F4_0, F5_0, F6_0, F7_0, F8_0, F9_0, F10_0, F11_0, F12_0, F13_0, V0_0, V1_0, V2_0, V3_0, V4_0, V5_0, V6_0, V7_0, V8_0, V9_0, V10_0⟩ := B
  refine own_aloadN X0 hx (hb hby d11_0) rfl rfl 1 rfl ?_
  refine own_getF X0 hx hZ hown (own_w hw 44 rfl) Via.refl e0 F13_0 (hb hby d11_1) 4 rfl (fun T2403 X2403 e2403 => ?_)
  refine own_iloadN X2403 hx (hb hby d11_4) rfl 5 rfl ?_
  refine own_aloadN X2403 hx (hb hby d11_5) rfl rfl 6 rfl ?_
  refine own_aloadN X2403 hx (hb hby d11_6) rfl rfl 7 rfl ?_
  refine own_iloadN X2403 hx (hb hby d11_7) rfl 8 rfl ?_
  refine own_callU X2403 hx hZ hown (own_w hw 87 rfl) (own_w hw 88 rfl) (own_w hw 89 rfl) (own_w hw 91 rfl) (own_w hw 90 rfl) (own_w hw 9 rfl) (own_w hw 92 rfl) (by decide) e2403 E0 (rm72 l Z a0 hw [] a a1_ a2_ a3_ a4_ a5_ a6_ a7_ a8_ a9_ a10_ a11_ va vb vp h0 n0 Z0 ga hord ⟨E0, F0_0, F1_0, F2_0, F3_0, F4_0, F5_0, F6_0, F7_0, F8_0, F9_0, F10_0, F11_0, F12_0, F13_0, V0_0, V1_0, V2_0, V3_0, V4_0, V5_0, V6_0, V7_0, V8_0, V9_0, V10_0⟩ hc) (by rw [hml]; rfl) pd_2 (argsL := [(.int (1 : Int32))]) rfl (rest := [(.ref a), (.int (1 : Int32)), (.ref a11_)]) rfl (hb hby d11_8) 3 (Nat.le_of_eq rfl) (by decide) (by decide) (by decide) (by decide) 11 rfl (fun T2405 L2405 v2405 X2405 hQ2405 => ?_)
  obtain ⟨rfl, N2405, e2405⟩ := hQ2405
  have N2406 := Fr.app N0 N2405
  show own_Go p e below G (T2405.setTop (mkF m 11 #[.val (.ref a), .val (.int (1 : Int32))] [(.int (-1 : Int32)), (.ref a), (.int (1 : Int32)), (.ref a11_)]))
  refine own_callP X2405 hx hZ hown (own_w hw 93 rfl) (own_w hw 94 rfl) (own_w hw 95 rfl) (own_niI hZ (own_w hw 1 rfl)) (own_w hw 2 rfl) (own_w hw 96 rfl) (by decide) e2405 E0 (rm73 l Z a0 hw [] a a1_ a2_ a3_ a4_ a5_ a6_ a7_ a8_ a9_ a10_ a11_ va vb vp h0 n0 Z0 ga hord ⟨E0, F0_0, F1_0, F2_0, F3_0, F4_0, F5_0, F6_0, F7_0, F8_0, F9_0, F10_0, F11_0, F12_0, F13_0, V0_0, V1_0, V2_0, V3_0, V4_0, V5_0, V6_0, V7_0, V8_0, V9_0, V10_0⟩ hc) (by rw [hml]; rfl) pd_4 (argsL := [(.int (-1 : Int32))]) rfl (rest := [(.int (1 : Int32)), (.ref a11_)]) rfl (hb hby d11_11) 2 (Nat.le_of_eq rfl) (by decide) (by decide) (by decide) (by decide) 14 rfl (fun T2407 L2407 v2407 X2407 hQ2407 => ?_)
  obtain ⟨rfl, N2407, e2407⟩ := hQ2407
  have N2408 := Fr.app N2406 N2407
  show own_Go p e below G (T2407.setTop (mkF m 14 #[.val (.ref a), .val (.int (1 : Int32))] [(.long (0 : Int64)), (.int (1 : Int32)), (.ref a11_)]))
  refine own_aloadN X2407 hx (hb hby d11_14) rfl rfl 15 rfl ?_
  refine own_getF X2407 hx hZ hown (own_w hw 42 rfl) Via.refl e2407 F12_0 (hb hby d11_15) 18 rfl (fun T2409 X2409 e2409 => ?_)
  refine own_iloadN X2409 hx (hb hby d11_18) rfl 19 rfl ?_
  refine own_laload X2409 hx hZ e2409 V9_0 1 rfl vp rfl (hb hby d11_19) 20 rfl ?_
  refine own_ladd X2409 hx (hb hby d11_20) 21 rfl ?_
  refine own_aloadN X2409 hx (hb hby d11_21) rfl rfl 22 rfl ?_
  refine own_aloadN X2409 hx (hb hby d11_22) rfl rfl 23 rfl ?_
  refine own_iloadN X2409 hx (hb hby d11_23) rfl 24 rfl ?_
  refine own_callU X2409 hx hZ hown (own_w hw 97 rfl) (own_w hw 98 rfl) (own_w hw 99 rfl) (own_w hw 101 rfl) (own_w hw 100 rfl) (own_w hw 9 rfl) (own_w hw 102 rfl) (by decide) e2409 E0 (rm74 l Z a0 hw [] a a1_ a2_ a3_ a4_ a5_ a6_ a7_ a8_ a9_ a10_ a11_ va vb vp h0 n0 Z0 ga hord ⟨E0, F0_0, F1_0, F2_0, F3_0, F4_0, F5_0, F6_0, F7_0, F8_0, F9_0, F10_0, F11_0, F12_0, F13_0, V0_0, V1_0, V2_0, V3_0, V4_0, V5_0, V6_0, V7_0, V8_0, V9_0, V10_0⟩ hc) (by rw [hml]; rfl) pd_2 (argsL := [(.int (1 : Int32))]) rfl (rest := [(.ref a), (.long ((0 : Int64) + vp)), (.int (1 : Int32)), (.ref a11_)]) rfl (hb hby d11_24) 5 (Nat.le_of_eq rfl) (by decide) (by decide) (by decide) (by decide) 27 rfl (fun T2411 L2411 v2411 X2411 hQ2411 => ?_)
  obtain ⟨rfl, N2411, e2411⟩ := hQ2411
  have N2412 := Fr.app N2408 N2411
  show own_Go p e below G (T2411.setTop (mkF m 27 #[.val (.ref a), .val (.int (1 : Int32))] [(.int (-1 : Int32)), (.ref a), (.long ((0 : Int64) + vp)), (.int (1 : Int32)), (.ref a11_)]))
  refine own_callP X2411 hx hZ hown (own_w hw 93 rfl) (own_w hw 94 rfl) (own_w hw 95 rfl) (own_niI hZ (own_w hw 1 rfl)) (own_w hw 2 rfl) (own_w hw 96 rfl) (by decide) e2411 E0 (rm73 l Z a0 hw [] a a1_ a2_ a3_ a4_ a5_ a6_ a7_ a8_ a9_ a10_ a11_ va vb vp h0 n0 Z0 ga hord ⟨E0, F0_0, F1_0, F2_0, F3_0, F4_0, F5_0, F6_0, F7_0, F8_0, F9_0, F10_0, F11_0, F12_0, F13_0, V0_0, V1_0, V2_0, V3_0, V4_0, V5_0, V6_0, V7_0, V8_0, V9_0, V10_0⟩ hc) (by rw [hml]; rfl) pd_4 (argsL := [(.int (-1 : Int32))]) rfl (rest := [(.long ((0 : Int64) + vp)), (.int (1 : Int32)), (.ref a11_)]) rfl (hb hby d11_27) 4 (Nat.le_of_eq rfl) (by decide) (by decide) (by decide) (by decide) 30 rfl (fun T2413 L2413 v2413 X2413 hQ2413 => ?_)
  obtain ⟨rfl, N2413, e2413⟩ := hQ2413
  have N2414 := Fr.app N2412 N2413
  show own_Go p e below G (T2413.setTop (mkF m 30 #[.val (.ref a), .val (.int (1 : Int32))] [(.long (0 : Int64)), (.long ((0 : Int64) + vp)), (.int (1 : Int32)), (.ref a11_)]))
  refine own_ladd X2413 hx (hb hby d11_30) 31 rfl ?_
  refine own_lastore X2413 hx hZ e2413 V10_0 1 rfl (by simp) (hb hby d11_31) 32 rfl (fun T2415 h2415 X2415 e2415 W2415 V2415 => ?_)
  rw [show [(((0 : Int64) + vp) + (0 : Int64)), (0 : Int64)].set 1 (((0 : Int64) + vp) + (0 : Int64)) = [(((0 : Int64) + vp) + (0 : Int64)), (((0 : Int64) + vp) + (0 : Int64))] from rfl] at V2415
  have N2416 := Fr.snoc X2415 N2414 (by omega)
  have Z2417 : n0 ≤ h2415.size := by rw [W2415.size]; exact Z0
  have E2418 := E0.wr W2415
  have F2419 := F0_0.other W2415 (Or.inl (Nat.ne_of_lt (by omega)))
  have F2420 := F1_0.other W2415 (Or.inl (Nat.ne_of_lt (by omega)))
  have F2421 := F2_0.other W2415 (Or.inl (Nat.ne_of_lt (by omega)))
  have F2422 := F3_0.other W2415 (Or.inl (Nat.ne_of_lt (by omega)))
  have F2423 := F4_0.other W2415 (Or.inl (Nat.ne_of_lt (by omega)))
  have F2424 := F5_0.other W2415 (Or.inl (Nat.ne_of_lt (by omega)))
  have F2425 := F6_0.other W2415 (Or.inl (Nat.ne_of_lt (by omega)))
  have F2426 := F7_0.other W2415 (Or.inl (Nat.ne_of_lt (by omega)))
  have F2427 := F8_0.other W2415 (Or.inl (Nat.ne_of_lt (by omega)))
  have F2428 := F9_0.other W2415 (Or.inl (Nat.ne_of_lt (by omega)))
  have F2429 := F10_0.other W2415 (Or.inl (Nat.ne_of_lt (by omega)))
  have F2430 := F11_0.other W2415 (Or.inl (Nat.ne_of_lt (by omega)))
  have F2431 := F12_0.other W2415 (Or.inl (Nat.ne_of_lt (by omega)))
  have F2432 := F13_0.other W2415 (Or.inl (Nat.ne_of_lt (by omega)))
  have V2433 := V0_0.other W2415 (Nat.ne_of_lt (by omega))
  have V2434 := V1_0.other W2415 (Nat.ne_of_lt (by omega))
  have V2435 := V2_0.other W2415 (Nat.ne_of_lt (by omega))
  have V2436 := V3_0.other W2415 (Nat.ne_of_lt (by omega))
  have V2437 := V4_0.other W2415 (Nat.ne_of_lt (by omega))
  have V2438 := V5_0.other W2415 (Nat.ne_of_lt (by omega))
  have V2439 := V6_0.other W2415 (Nat.ne_of_lt (by omega))
  have V2440 := V7_0.other W2415 (Nat.ne_of_lt (by omega))
  have V2441 := V8_0.other W2415 (Nat.ne_of_lt (by omega))
  have V2442 := V9_0.other W2415 (Nat.ne_of_lt (by omega))
  refine own_return X2415 hx Bd.notSynchronized hG Bd.returns (hb hby d11_32) (by decide) (by decide) ?_
  rw [e2415]
  exact ⟨rfl, N2416, Z2417, ⟨E2418, F2419, F2420, F2421, F2422, F2423, F2424, F2425, F2426, F2427, F2428, F2429, F2430, F2431, F2432, V2433, V2434, V2435, V2436, V2437, V2438, V2439, V2440, V2441, V2442, V2415⟩⟩
def Q69 (Z : State) (a a1_ a2_ a3_ a4_ a5_ a6_ a7_ a8_ a9_ a10_ a11_ : Addr) (va vb vp : Int64) (h0 : Heap) (n0 : Nat) (v : Option Value) (h : Heap) (L : List Loc) : Prop := v = none ∧ Fr n0 L ∧ n0 ≤ h.size ∧ own_PE Z h a a1_ a2_ a3_ a4_ a5_ a6_ a7_ a8_ a9_ a10_ a11_ (0 : Int32) (0 : Int32) (2 : Int32) (List.replicate 127 (0 : Int32)) (List.replicate 127 (0 : Int32)) [(0 : Int32), (1 : Int32)] [(1 : Int32), (0 : Int32)] [(-1 : Int32), (-1 : Int32)] [(-1 : Int32), (-1 : Int32)] [(1 : Int32), (1 : Int32)] [va, vb] [vp, vp] [(((0 : Int64) + vp) + (0 : Int64)), (((0 : Int64) + vp) + (0 : Int64))]
theorem ef_rm69 (m : MethodId) (x0 : Addr) (x1 : Int32) : entryFrame m #[(.ref x0), (.int x1)] 2 = mkF m 0 #[.val (.ref x0), .val (.int x1)] [] := by first | (simp [entryFrame, mkF, argsToLocals, Value.category, maxLocals]; done) | rfl
set_option maxRecDepth 65536 in
set_option maxHeartbeats 40000000 in
theorem rm69 (l : Launch) (Z : State) (a0 : Array Value) (hw : ∀ d ∈ tables_1, d.before a0 Z = true) (ws : List Jvm.Cond) (a a1_ a2_ a3_ a4_ a5_ a6_ a7_ a8_ a9_ a10_ a11_ : Addr) (va vb vp : Int64) (h0 : Heap) (n0 : Nat) (Z0 : n0 ≤ h0.size) (ga : n0 ≤ a) (hord : own_Or a a1_ a2_ a3_ a4_ a5_ a6_ a7_ a8_ a9_ a10_ a11_) (B : own_PE Z h0 a a1_ a2_ a3_ a4_ a5_ a6_ a7_ a8_ a9_ a10_ a11_ (0 : Int32) (0 : Int32) (2 : Int32) (List.replicate 127 (0 : Int32)) (List.replicate 127 (0 : Int32)) [(0 : Int32), (1 : Int32)] [(1 : Int32), (0 : Int32)] [(-1 : Int32), (-1 : Int32)] [(-1 : Int32), (-1 : Int32)] [(1 : Int32), (0 : Int32)] [va, vb] [vp, vp] [(((0 : Int64) + vp) + (0 : Int64)), (0 : Int64)]) (hc : vb < va) :
    MetFree l own_y8 (head1 (Jvm.Cond.code own_y8 prog_49_method_27_code 2 none :: ws) ({ frames := 2, cells := 0, slots := 0, locals := 31 } : Room)) (fun aR U => aR = #[(.ref a), (.int (1 : Int32))] ∧ Z.Warmed39 U.vm ∧ U.heap = h0) (fun _ _ _ _ _ => True) (fun _ U o U' => ∃ v L, o = .returned v ∧ Q69 Z a a1_ a2_ a3_ a4_ a5_ a6_ a7_ a8_ a9_ a10_ a11_ va vb vp h0 n0 v U'.heap L ∧ FrameEnd U o U' L ({ frames := 2, cells := 0, slots := 0, locals := 31 } : Room).cells ({ frames := 2, cells := 0, slots := 0, locals := 31 } : Room).slots) := by
  refine MetFree.of_bodySF pf_8 hisR ?_
  intro p e s m args below meth c s₁ Bd hml0 hP hK
  obtain ⟨rfl, hZ, hhE⟩ := hP
  have hx := Bd.exec
  have hby := Bd.bytes
  have hml : c.maxLocals = 2 := hml0
  have hown : s.vm.findClass "com/example/equitide/equitide/policy/backfilling/AvlTree" = some m.cls := findClass_of_methodNamed Bd.named
  have hnm := (name_of_methodNamed Bd.named Bd.method).1
  have X0 : Stand p l e ({ frames := 2, cells := 0, slots := 0, locals := 31 } : Room) s m #[(.ref a), (.int (1 : Int32))] below meth c s₁ [] 0 0 := Stand.of_body Bd
  have e0 : s₁.heap = h0 := by rw [← hhE, Bd.state]; rfl
  have N0 := Fr.nil n0
  show own_Go p e below (own_Post s (Q69 Z a a1_ a2_ a3_ a4_ a5_ a6_ a7_ a8_ a9_ a10_ a11_ va vb vp h0 n0) ({ frames := 2, cells := 0, slots := 0, locals := 31 } : Room).cells ({ frames := 2, cells := 0, slots := 0, locals := 31 } : Room).slots) (s₁.setTop (entryFrame m #[(.ref a), (.int (1 : Int32))] 2))
  rw [ef_rm69]
  generalize hG : own_Post s (Q69 Z a a1_ a2_ a3_ a4_ a5_ a6_ a7_ a8_ a9_ a10_ a11_ va vb vp h0 n0) ({ frames := 2, cells := 0, slots := 0, locals := 31 } : Room).cells ({ frames := 2, cells := 0, slots := 0, locals := 31 } : Room).slots = G
  obtain ⟨o1, o2, o3, o4, o5, o6, o7, o8, o9, o10, o11⟩ := id hord
  obtain ⟨E0, F0_0, F1_0, F2_0, F3_0, F4_0, F5_0, F6_0, F7_0, F8_0, F9_0, F10_0, F11_0, F12_0, F13_0, V0_0, V1_0, V2_0, V3_0, V4_0, V5_0, V6_0, V7_0, V8_0, V9_0, V10_0⟩ := B
  refine own_aloadN X0 hx (hb hby d8_0) rfl rfl 1 rfl ?_
  refine own_getF X0 hx hZ hown (own_w hw 37 rfl) Via.refl e0 F10_0 (hb hby d8_1) 4 rfl (fun T2366 X2366 e2366 => ?_)
  refine own_iloadN X2366 hx (hb hby d8_4) rfl 5 rfl ?_
  refine own_iconst X2366 hx (hb hby d8_5) (1 : Int32) rfl 6 rfl ?_
  refine own_aloadN X2366 hx (hb hby d8_6) rfl rfl 7 rfl ?_
  refine own_aloadN X2366 hx (hb hby d8_7) rfl rfl 8 rfl ?_
  refine own_getF X2366 hx hZ hown (own_w hw 27 rfl) Via.refl e2366 F7_0 (hb hby d8_8) 11 rfl (fun T2367 X2367 e2367 => ?_)
  refine own_iloadN X2367 hx (hb hby d8_11) rfl 12 rfl ?_
  refine own_iaload X2367 hx hZ e2367 V4_0 1 rfl (-1 : Int32) rfl (hb hby d8_12) 13 rfl ?_
  refine own_callP X2367 hx hZ hown (own_w hw 74 rfl) (own_w hw 75 rfl) (own_w hw 76 rfl) (own_niS hZ (own_w hw 60 rfl) (own_w hw 59 rfl) rfl) (own_w hw 9 rfl) (own_w hw 77 rfl) (by decide) e2367 E0 (rm70 l Z a0 hw [] a a1_ a2_ a3_ a4_ a5_ a6_ a7_ a8_ a9_ a10_ a11_ va vb vp h0 n0 Z0 ga hord ⟨E0, F0_0, F1_0, F2_0, F3_0, F4_0, F5_0, F6_0, F7_0, F8_0, F9_0, F10_0, F11_0, F12_0, F13_0, V0_0, V1_0, V2_0, V3_0, V4_0, V5_0, V6_0, V7_0, V8_0, V9_0, V10_0⟩ hc) (by rw [hml]; rfl) pd_2 (argsL := [(.int (-1 : Int32))]) rfl (rest := [(.int (1 : Int32)), (.int (1 : Int32)), (.ref a8_)]) rfl (hb hby d8_13) 3 (Nat.le_of_eq rfl) (by decide) (by decide) (by decide) (by decide) 16 rfl (fun T2368 L2368 v2368 X2368 hQ2368 => ?_)
  obtain ⟨rfl, N2368, e2368⟩ := hQ2368
  have N2369 := Fr.app N0 N2368
  show own_Go p e below G (T2368.setTop (mkF m 16 #[.val (.ref a), .val (.int (1 : Int32))] [(.int (0 : Int32)), (.int (1 : Int32)), (.int (1 : Int32)), (.ref a8_)]))
  refine own_aloadN X2368 hx (hb hby d8_16) rfl rfl 17 rfl ?_
  refine own_aloadN X2368 hx (hb hby d8_17) rfl rfl 18 rfl ?_
  refine own_getF X2368 hx hZ hown (own_w hw 29 rfl) Via.refl e2368 F8_0 (hb hby d8_18) 21 rfl (fun T2370 X2370 e2370 => ?_)
  refine own_iloadN X2370 hx (hb hby d8_21) rfl 22 rfl ?_
  refine own_iaload X2370 hx hZ e2370 V5_0 1 rfl (-1 : Int32) rfl (hb hby d8_22) 23 rfl ?_
  refine own_callP X2370 hx hZ hown (own_w hw 74 rfl) (own_w hw 75 rfl) (own_w hw 76 rfl) (own_niS hZ (own_w hw 60 rfl) (own_w hw 59 rfl) rfl) (own_w hw 9 rfl) (own_w hw 77 rfl) (by decide) e2370 E0 (rm70 l Z a0 hw [] a a1_ a2_ a3_ a4_ a5_ a6_ a7_ a8_ a9_ a10_ a11_ va vb vp h0 n0 Z0 ga hord ⟨E0, F0_0, F1_0, F2_0, F3_0, F4_0, F5_0, F6_0, F7_0, F8_0, F9_0, F10_0, F11_0, F12_0, F13_0, V0_0, V1_0, V2_0, V3_0, V4_0, V5_0, V6_0, V7_0, V8_0, V9_0, V10_0⟩ hc) (by rw [hml]; rfl) pd_2 (argsL := [(.int (-1 : Int32))]) rfl (rest := [(.int (0 : Int32)), (.int (1 : Int32)), (.int (1 : Int32)), (.ref a8_)]) rfl (hb hby d8_23) 4 (Nat.le_of_eq rfl) (by decide) (by decide) (by decide) (by decide) 26 rfl (fun T2371 L2371 v2371 X2371 hQ2371 => ?_)
  obtain ⟨rfl, N2371, e2371⟩ := hQ2371
  have N2372 := Fr.app N2369 N2371
  show own_Go p e below G (T2371.setTop (mkF m 26 #[.val (.ref a), .val (.int (1 : Int32))] [(.int (0 : Int32)), (.int (0 : Int32)), (.int (1 : Int32)), (.int (1 : Int32)), (.ref a8_)]))
  refine own_callS X2371 hx hZ hown (own_w hw 78 rfl) (own_w hw 79 rfl) (own_w hw 80 rfl) (own_w hw 81 rfl) (by decide) e2371 (rmMax l Z a0 hw [] (0 : Int32) (0 : Int32) h0 n0) (by rw [hml]; rfl) pd_3 (argsL := [(.int (0 : Int32)), (.int (0 : Int32))]) rfl (rest := [(.int (1 : Int32)), (.int (1 : Int32)), (.ref a8_)]) rfl (hb hby d8_26) 3 (Nat.le_of_eq rfl) (by decide) (by decide) (by decide) (by decide) 29 rfl (fun T2373 L2373 v2373 X2373 hQ2373 => ?_)
  obtain ⟨rfl, N2373, e2373⟩ := hQ2373
  have N2374 := Fr.app N2372 N2373
  show own_Go p e below G (T2373.setTop (mkF m 29 #[.val (.ref a), .val (.int (1 : Int32))] [(.int (own_max (0 : Int32) (0 : Int32))), (.int (1 : Int32)), (.int (1 : Int32)), (.ref a8_)]))
  rw [show own_max (0 : Int32) (0 : Int32) = (0 : Int32) from rfl]
  refine own_iadd X2373 hx (hb hby d8_29) 30 rfl ?_
  show own_Go p e below G (T2373.setTop (mkF m 30 #[.val (.ref a), .val (.int (1 : Int32))] [(.int (1 : Int32)), (.int (1 : Int32)), (.ref a8_)]))
  refine own_i2b X2373 hx (hb hby d8_30) 31 rfl ?_
  show own_Go p e below G (T2373.setTop (mkF m 31 #[.val (.ref a), .val (.int (1 : Int32))] [(.int (1 : Int32)), (.int (1 : Int32)), (.ref a8_)]))
  refine own_bastore X2373 hx hZ e2373 V7_0 1 rfl (by simp) (hb hby d8_31) 32 rfl (fun T2375 h2375 X2375 e2375 W2375 V2375 => ?_)
  rw [show [(1 : Int32), (0 : Int32)].set 1 ((1 : Int32).toInt8.toInt32) = [(1 : Int32), (1 : Int32)] from rfl] at V2375
  have N2376 := Fr.snoc X2375 N2374 (by omega)
  have Z2377 : n0 ≤ h2375.size := by rw [W2375.size]; exact Z0
  have E2378 := E0.wr W2375
  have F2379 := F0_0.other W2375 (Or.inl (Nat.ne_of_lt (by omega)))
  have F2380 := F1_0.other W2375 (Or.inl (Nat.ne_of_lt (by omega)))
  have F2381 := F2_0.other W2375 (Or.inl (Nat.ne_of_lt (by omega)))
  have F2382 := F3_0.other W2375 (Or.inl (Nat.ne_of_lt (by omega)))
  have F2383 := F4_0.other W2375 (Or.inl (Nat.ne_of_lt (by omega)))
  have F2384 := F5_0.other W2375 (Or.inl (Nat.ne_of_lt (by omega)))
  have F2385 := F6_0.other W2375 (Or.inl (Nat.ne_of_lt (by omega)))
  have F2386 := F7_0.other W2375 (Or.inl (Nat.ne_of_lt (by omega)))
  have F2387 := F8_0.other W2375 (Or.inl (Nat.ne_of_lt (by omega)))
  have F2388 := F9_0.other W2375 (Or.inl (Nat.ne_of_lt (by omega)))
  have F2389 := F10_0.other W2375 (Or.inl (Nat.ne_of_lt (by omega)))
  have F2390 := F11_0.other W2375 (Or.inl (Nat.ne_of_lt (by omega)))
  have F2391 := F12_0.other W2375 (Or.inl (Nat.ne_of_lt (by omega)))
  have F2392 := F13_0.other W2375 (Or.inl (Nat.ne_of_lt (by omega)))
  have V2393 := V0_0.other W2375 (Nat.ne_of_lt (by omega))
  have V2394 := V1_0.other W2375 (Nat.ne_of_lt (by omega))
  have V2395 := V2_0.other W2375 (Nat.ne_of_lt (by omega))
  have V2396 := V3_0.other W2375 (Nat.ne_of_lt (by omega))
  have V2397 := V4_0.other W2375 (Nat.ne_of_lt (by omega))
  have V2398 := V5_0.other W2375 (Nat.ne_of_lt (by omega))
  have V2399 := V6_0.other W2375 (Nat.ne_of_lt (by omega))
  have V2400 := V8_0.other W2375 (Ne.symm (Nat.ne_of_lt (by omega)))
  have V2401 := V9_0.other W2375 (Ne.symm (Nat.ne_of_lt (by omega)))
  have V2402 := V10_0.other W2375 (Ne.symm (Nat.ne_of_lt (by omega)))
  refine own_aloadN X2375 hx (hb hby d8_32) rfl rfl 33 rfl ?_
  refine own_iloadN X2375 hx (hb hby d8_33) rfl 34 rfl ?_
  refine own_callV X2375 hx hZ hown (own_w hw 82 rfl) (own_w hw 83 rfl) (own_w hw 84 rfl) (own_nfS (own_niS hZ (own_w hw 60 rfl) (own_w hw 59 rfl) rfl)) (own_w hw 85 rfl) (own_w hw 2 rfl) (own_w hw 86 rfl) (by decide) e2375 E2378 (rm71 l Z a0 hw [] a a1_ a2_ a3_ a4_ a5_ a6_ a7_ a8_ a9_ a10_ a11_ va vb vp h2375 n0 Z2377 ga hord ⟨E2378, F2379, F2380, F2381, F2382, F2383, F2384, F2385, F2386, F2387, F2388, F2389, F2390, F2391, F2392, V2393, V2394, V2395, V2396, V2397, V2398, V2399, V2375, V2400, V2401, V2402⟩ hc) (by rw [hml]; rfl) pd_5 (argsL := [(.int (1 : Int32))]) rfl (rest := []) rfl (hb hby d8_34) 0 (Nat.le_of_eq rfl) (by decide) (by decide) (by decide) (by decide) 37 rfl (fun T2443 L2443 v2443 X2443 hQ2443 => ?_)
  obtain ⟨rfl, N2443, Z2443, B2443⟩ := hQ2443
  have N2444 := Fr.app N2376 N2443
  obtain ⟨E2443, F0_2443, F1_2443, F2_2443, F3_2443, F4_2443, F5_2443, F6_2443, F7_2443, F8_2443, F9_2443, F10_2443, F11_2443, F12_2443, F13_2443, V0_2443, V1_2443, V2_2443, V3_2443, V4_2443, V5_2443, V6_2443, V7_2443, V8_2443, V9_2443, V10_2443⟩ := B2443
  show own_Go p e below G (T2443.setTop (mkF m 37 #[.val (.ref a), .val (.int (1 : Int32))] []))
  refine own_return X2443 hx Bd.notSynchronized hG Bd.returns (hb hby d8_37) (by decide) (by decide) ?_
  skip
  exact ⟨rfl, N2444, Z2443, ⟨E2443, F0_2443, F1_2443, F2_2443, F3_2443, F4_2443, F5_2443, F6_2443, F7_2443, F8_2443, F9_2443, F10_2443, F11_2443, F12_2443, F13_2443, V0_2443, V1_2443, V2_2443, V3_2443, V4_2443, V5_2443, V6_2443, V7_2443, V8_2443, V9_2443, V10_2443⟩⟩
def Q76 (Z : State) (a a1_ a2_ a3_ a4_ a5_ a6_ a7_ a8_ a9_ a10_ a11_ : Addr) (va vb vp : Int64) (h0 : Heap) (n0 : Nat) (v : Option Value) (h : Heap) (L : List Loc) : Prop := v = some (.int (1 : Int32)) ∧ Fr n0 L ∧ h = h0
theorem ef_rm76 (m : MethodId) (x0 : Addr) (x1 : Int32) (x2 : Int32) : entryFrame m #[(.ref x0), (.int x1), (.int x2)] 3 = mkF m 0 #[.val (.ref x0), .val (.int x1), .val (.int x2)] [] := by first | (simp [entryFrame, mkF, argsToLocals, Value.category, maxLocals]; done) | rfl
set_option maxRecDepth 65536 in
set_option maxHeartbeats 40000000 in
theorem rm76 (l : Launch) (Z : State) (a0 : Array Value) (hw : ∀ d ∈ tables_1, d.before a0 Z = true) (ws : List Jvm.Cond) (a a1_ a2_ a3_ a4_ a5_ a6_ a7_ a8_ a9_ a10_ a11_ : Addr) (va vb vp : Int64) (h0 : Heap) (n0 : Nat) (Z0 : n0 ≤ h0.size) (ga : n0 ≤ a) (hord : own_Or a a1_ a2_ a3_ a4_ a5_ a6_ a7_ a8_ a9_ a10_ a11_) (B : own_PE Z h0 a a1_ a2_ a3_ a4_ a5_ a6_ a7_ a8_ a9_ a10_ a11_ (0 : Int32) (0 : Int32) (2 : Int32) ((List.replicate 127 (0 : Int32)).set 0 (0 : Int32)) (List.replicate 127 (0 : Int32)) [(0 : Int32), (1 : Int32)] [(1 : Int32), (0 : Int32)] [(-1 : Int32), (-1 : Int32)] [(-1 : Int32), (-1 : Int32)] [(1 : Int32), (1 : Int32)] [va, vb] [vp, vp] [(((0 : Int64) + vp) + (0 : Int64)), (((0 : Int64) + vp) + (0 : Int64))]) (hc : vb < va) :
    MetFree l own_y17 (head1 (Jvm.Cond.code own_y17 prog_66_method_9_code 3 (some .boolean) :: ws) ({ frames := 0, cells := 0, slots := 0, locals := 0 } : Room)) (fun aR U => aR = #[(.ref a), (.int (1 : Int32)), (.int (0 : Int32))] ∧ Z.Warmed39 U.vm ∧ U.heap = h0) (fun _ _ _ _ _ => True) (fun _ U o U' => ∃ v L, o = .returned v ∧ Q76 Z a a1_ a2_ a3_ a4_ a5_ a6_ a7_ a8_ a9_ a10_ a11_ va vb vp h0 n0 v U'.heap L ∧ FrameEnd U o U' L ({ frames := 0, cells := 0, slots := 0, locals := 0 } : Room).cells ({ frames := 0, cells := 0, slots := 0, locals := 0 } : Room).slots) := by
  refine MetFree.of_bodySF pf_17 hisR ?_
  intro p e s m args below meth c s₁ Bd hml0 hP hK
  obtain ⟨rfl, hZ, hhE⟩ := hP
  have hx := Bd.exec
  have hby := Bd.bytes
  have hml : c.maxLocals = 3 := hml0
  have hown : s.vm.findClass "com/example/equitide/equitide/policy/backfilling/PlannedEnds" = some m.cls := findClass_of_methodNamed Bd.named
  have hnm := (name_of_methodNamed Bd.named Bd.method).1
  have X0 : Stand p l e ({ frames := 0, cells := 0, slots := 0, locals := 0 } : Room) s m #[(.ref a), (.int (1 : Int32)), (.int (0 : Int32))] below meth c s₁ [] 0 0 := Stand.of_body Bd
  have e0 : s₁.heap = h0 := by rw [← hhE, Bd.state]; rfl
  have N0 := Fr.nil n0
  show own_Go p e below (own_Post s (Q76 Z a a1_ a2_ a3_ a4_ a5_ a6_ a7_ a8_ a9_ a10_ a11_ va vb vp h0 n0) ({ frames := 0, cells := 0, slots := 0, locals := 0 } : Room).cells ({ frames := 0, cells := 0, slots := 0, locals := 0 } : Room).slots) (s₁.setTop (entryFrame m #[(.ref a), (.int (1 : Int32)), (.int (0 : Int32))] 3))
  rw [ef_rm76]
  generalize hG : own_Post s (Q76 Z a a1_ a2_ a3_ a4_ a5_ a6_ a7_ a8_ a9_ a10_ a11_ va vb vp h0 n0) ({ frames := 0, cells := 0, slots := 0, locals := 0 } : Room).cells ({ frames := 0, cells := 0, slots := 0, locals := 0 } : Room).slots = G
  obtain ⟨o1, o2, o3, o4, o5, o6, o7, o8, o9, o10, o11⟩ := id hord
  obtain ⟨E0, F0_0, F1_0, F2_0, F3_0, F4_0, F5_0, F6_0, F7_0, F8_0, F9_0, F10_0, F11_0, F12_0, F13_0, V0_0, V1_0, V2_0, V3_0, V4_0, V5_0, V6_0, V7_0, V8_0, V9_0, V10_0⟩ := B
  refine own_aloadN X0 hx (hb hby d17_0) rfl rfl 1 rfl ?_
  refine own_getF X0 hx hZ hown (own_w hw 40 rfl) Via.refl e0 F11_0 (hb hby d17_1) 4 rfl (fun T2478 X2478 e2478 => ?_)
  refine own_iloadN X2478 hx (hb hby d17_4) rfl 5 rfl ?_
  refine own_laload X2478 hx hZ e2478 V8_0 1 rfl vb rfl (hb hby d17_5) 6 rfl ?_
  refine own_aloadN X2478 hx (hb hby d17_6) rfl rfl 7 rfl ?_
  refine own_getF X2478 hx hZ hown (own_w hw 40 rfl) Via.refl e2478 F11_0 (hb hby d17_7) 10 rfl (fun T2479 X2479 e2479 => ?_)
  refine own_iloadN X2479 hx (hb hby d17_10) rfl 11 rfl ?_
  refine own_laload X2479 hx hZ e2479 V8_0 0 rfl va rfl (hb hby d17_11) 12 rfl ?_
  refine own_lcmp X2479 hx (hb hby d17_12) 13 rfl ?_
  refine own_ifN X2479 hx (hb hby d17_13) (own_neL (own_lne hc)).1 16 rfl ?_
  refine own_aloadN X2479 hx (hb hby d17_16) rfl rfl 17 rfl ?_
  refine own_getF X2479 hx hZ hown (own_w hw 40 rfl) Via.refl e2479 F11_0 (hb hby d17_17) 20 rfl (fun T2480 X2480 e2480 => ?_)
  refine own_iloadN X2480 hx (hb hby d17_20) rfl 21 rfl ?_
  refine own_laload X2480 hx hZ e2480 V8_0 1 rfl vb rfl (hb hby d17_21) 22 rfl ?_
  refine own_aloadN X2480 hx (hb hby d17_22) rfl rfl 23 rfl ?_
  refine own_getF X2480 hx hZ hown (own_w hw 40 rfl) Via.refl e2480 F11_0 (hb hby d17_23) 26 rfl (fun T2481 X2481 e2481 => ?_)
  refine own_iloadN X2481 hx (hb hby d17_26) rfl 27 rfl ?_
  refine own_laload X2481 hx hZ e2481 V8_0 0 rfl va rfl (hb hby d17_27) 28 rfl ?_
  refine own_lcmp X2481 hx (hb hby d17_28) 29 rfl ?_
  refine own_ifN X2481 hx (hb hby d17_29) (own_ltL hc).2 32 rfl ?_
  refine own_iconst X2481 hx (hb hby d17_32) (1 : Int32) rfl 33 rfl ?_
  refine own_goto X2481 hx (hb hby d17_33) 50 ⟨by decide, by decide⟩ ?_
  refine own_nreturn X2481 hx Bd.notSynchronized hG Bd.returns (by simp) (hb hby d17_50) (by decide) (by decide) ?_
  rw [e2481]
  exact ⟨rfl, N0, rfl⟩
def Q75 (Z : State) (a a1_ a2_ a3_ a4_ a5_ a6_ a7_ a8_ a9_ a10_ a11_ : Addr) (va vb vp : Int64) (h0 : Heap) (n0 : Nat) (v : Option Value) (h : Heap) (L : List Loc) : Prop := v = some (.int (1 : Int32)) ∧ Fr n0 L ∧ n0 ≤ h.size ∧ own_PE Z h a a1_ a2_ a3_ a4_ a5_ a6_ a7_ a8_ a9_ a10_ a11_ (0 : Int32) (0 : Int32) (2 : Int32) ((List.replicate 127 (0 : Int32)).set 0 (0 : Int32)) ((List.replicate 127 (0 : Int32)).set 0 (0 : Int32)) [(0 : Int32), (1 : Int32)] [(1 : Int32), (0 : Int32)] [(-1 : Int32), (-1 : Int32)] [(-1 : Int32), (-1 : Int32)] [(1 : Int32), (1 : Int32)] [va, vb] [vp, vp] [(((0 : Int64) + vp) + (0 : Int64)), (((0 : Int64) + vp) + (0 : Int64))]
theorem ef_rm75 (m : MethodId) (x0 : Addr) (x1 : Int32) (x2 : Int32) : entryFrame m #[(.ref x0), (.int x1), (.int x2)] 5 = mkF m 0 #[.val (.ref x0), .val (.int x1), .val (.int x2), .unset, .unset] [] := by first | (simp [entryFrame, mkF, argsToLocals, Value.category, maxLocals]; done) | rfl
set_option maxRecDepth 65536 in
set_option maxHeartbeats 40000000 in
theorem rm75 (l : Launch) (Z : State) (a0 : Array Value) (hw : ∀ d ∈ tables_1, d.before a0 Z = true) (ws : List Jvm.Cond) (a a1_ a2_ a3_ a4_ a5_ a6_ a7_ a8_ a9_ a10_ a11_ : Addr) (va vb vp : Int64) (h0 : Heap) (n0 : Nat) (Z0 : n0 ≤ h0.size) (ga : n0 ≤ a) (hord : own_Or a a1_ a2_ a3_ a4_ a5_ a6_ a7_ a8_ a9_ a10_ a11_) (B : own_PE Z h0 a a1_ a2_ a3_ a4_ a5_ a6_ a7_ a8_ a9_ a10_ a11_ (0 : Int32) (0 : Int32) (2 : Int32) (List.replicate 127 (0 : Int32)) (List.replicate 127 (0 : Int32)) [(0 : Int32), (1 : Int32)] [(1 : Int32), (0 : Int32)] [(-1 : Int32), (-1 : Int32)] [(-1 : Int32), (-1 : Int32)] [(1 : Int32), (1 : Int32)] [va, vb] [vp, vp] [(((0 : Int64) + vp) + (0 : Int64)), (((0 : Int64) + vp) + (0 : Int64))]) (hc : vb < va) :
    MetFree l own_y15 (head1 (Jvm.Cond.code own_y15 prog_49_method_22_code 5 (some .int) :: ws) ({ frames := 1, cells := 0, slots := 0, locals := 16 } : Room)) (fun aR U => aR = #[(.ref a), (.int (1 : Int32)), (.int (-1 : Int32))] ∧ Z.Warmed39 U.vm ∧ U.heap = h0) (fun _ _ _ _ _ => True) (fun _ U o U' => ∃ v L, o = .returned v ∧ Q75 Z a a1_ a2_ a3_ a4_ a5_ a6_ a7_ a8_ a9_ a10_ a11_ va vb vp h0 n0 v U'.heap L ∧ FrameEnd U o U' L ({ frames := 1, cells := 0, slots := 0, locals := 16 } : Room).cells ({ frames := 1, cells := 0, slots := 0, locals := 16 } : Room).slots) := by
  refine MetFree.of_bodySF pf_15 hisR ?_
  intro p e s m args below meth c s₁ Bd hml0 hP hK
  obtain ⟨rfl, hZ, hhE⟩ := hP
  have hx := Bd.exec
  have hby := Bd.bytes
  have hml : c.maxLocals = 5 := hml0
  have hown : s.vm.findClass "com/example/equitide/equitide/policy/backfilling/AvlTree" = some m.cls := findClass_of_methodNamed Bd.named
  have hnm := (name_of_methodNamed Bd.named Bd.method).1
  have X0 : Stand p l e ({ frames := 1, cells := 0, slots := 0, locals := 16 } : Room) s m #[(.ref a), (.int (1 : Int32)), (.int (-1 : Int32))] below meth c s₁ [] 0 0 := Stand.of_body Bd
  have e0 : s₁.heap = h0 := by rw [← hhE, Bd.state]; rfl
  have N0 := Fr.nil n0
  show own_Go p e below (own_Post s (Q75 Z a a1_ a2_ a3_ a4_ a5_ a6_ a7_ a8_ a9_ a10_ a11_ va vb vp h0 n0) ({ frames := 1, cells := 0, slots := 0, locals := 16 } : Room).cells ({ frames := 1, cells := 0, slots := 0, locals := 16 } : Room).slots) (s₁.setTop (entryFrame m #[(.ref a), (.int (1 : Int32)), (.int (-1 : Int32))] 5))
  rw [ef_rm75]
  generalize hG : own_Post s (Q75 Z a a1_ a2_ a3_ a4_ a5_ a6_ a7_ a8_ a9_ a10_ a11_ va vb vp h0 n0) ({ frames := 1, cells := 0, slots := 0, locals := 16 } : Room).cells ({ frames := 1, cells := 0, slots := 0, locals := 16 } : Room).slots = G
  obtain ⟨o1, o2, o3, o4, o5, o6, o7, o8, o9, o10, o11⟩ := id hord
  obtain ⟨E0, F0_0, F1_0, F2_0, F3_0, F4_0, F5_0, F6_0, F7_0, F8_0, F9_0, F10_0, F11_0, F12_0, F13_0, V0_0, V1_0, V2_0, V3_0, V4_0, V5_0, V6_0, V7_0, V8_0, V9_0, V10_0⟩ := B
  refine own_iconst X0 hx (hb hby d15_0) (0 : Int32) rfl 1 rfl ?_
  refine own_istoreN X0 hx (hb hby d15_1) #[.val (.ref a), .val (.int (1 : Int32)), .val (.int (-1 : Int32)), .val (.int (0 : Int32)), .unset] rfl 2 rfl ?_
  refine own_aloadN X0 hx (hb hby d15_2) rfl rfl 3 rfl ?_
  refine own_getF X0 hx hZ hown (own_w hw 14 rfl) Via.refl e0 F0_0 (hb hby d15_3) 6 rfl (fun T2447 X2447 e2447 => ?_)
  refine own_istore X2447 hx (hb hby d15_6) #[.val (.ref a), .val (.int (1 : Int32)), .val (.int (-1 : Int32)), .val (.int (0 : Int32)), .val (.int (0 : Int32))] rfl 8 rfl ?_
  refine own_iload X2447 hx (hb hby d15_8) rfl 10 rfl ?_
  refine own_iloadN X2447 hx (hb hby d15_10) rfl 11 rfl ?_
  refine own_icmpN X2447 hx (hb hby d15_11) (feq (by decide)).1 14 rfl ?_
  refine own_aloadN X2447 hx (hb hby d15_14) rfl rfl 15 rfl ?_
  refine own_getF X2447 hx hZ hown (own_w hw 17 rfl) Via.refl e2447 F3_0 (hb hby d15_15) 18 rfl (fun T2448 X2448 e2448 => ?_)
  refine own_iloadN X2448 hx (hb hby d15_18) rfl 19 rfl ?_
  refine own_iload X2448 hx (hb hby d15_19) rfl 21 rfl ?_
  refine own_iastore X2448 hx hZ e2448 V0_0 0 rfl (by simp) (hb hby d15_21) 22 rfl (fun T2449 h2449 X2449 e2449 W2449 V2449 => ?_)
  have N2450 := Fr.snoc X2449 N0 (by omega)
  have Z2451 : n0 ≤ h2449.size := by rw [W2449.size]; exact Z0
  have E2452 := E0.wr W2449
  have F2453 := F0_0.other W2449 (Or.inl (Nat.ne_of_lt (by omega)))
  have F2454 := F1_0.other W2449 (Or.inl (Nat.ne_of_lt (by omega)))
  have F2455 := F2_0.other W2449 (Or.inl (Nat.ne_of_lt (by omega)))
  have F2456 := F3_0.other W2449 (Or.inl (Nat.ne_of_lt (by omega)))
  have F2457 := F4_0.other W2449 (Or.inl (Nat.ne_of_lt (by omega)))
  have F2458 := F5_0.other W2449 (Or.inl (Nat.ne_of_lt (by omega)))
  have F2459 := F6_0.other W2449 (Or.inl (Nat.ne_of_lt (by omega)))
  have F2460 := F7_0.other W2449 (Or.inl (Nat.ne_of_lt (by omega)))
  have F2461 := F8_0.other W2449 (Or.inl (Nat.ne_of_lt (by omega)))
  have F2462 := F9_0.other W2449 (Or.inl (Nat.ne_of_lt (by omega)))
  have F2463 := F10_0.other W2449 (Or.inl (Nat.ne_of_lt (by omega)))
  have F2464 := F11_0.other W2449 (Or.inl (Nat.ne_of_lt (by omega)))
  have F2465 := F12_0.other W2449 (Or.inl (Nat.ne_of_lt (by omega)))
  have F2466 := F13_0.other W2449 (Or.inl (Nat.ne_of_lt (by omega)))
  have V2467 := V1_0.other W2449 (Ne.symm (Nat.ne_of_lt (by omega)))
  have V2468 := V2_0.other W2449 (Ne.symm (Nat.ne_of_lt (by omega)))
  have V2469 := V3_0.other W2449 (Ne.symm (Nat.ne_of_lt (by omega)))
  have V2470 := V4_0.other W2449 (Ne.symm (Nat.ne_of_lt (by omega)))
  have V2471 := V5_0.other W2449 (Ne.symm (Nat.ne_of_lt (by omega)))
  have V2472 := V6_0.other W2449 (Ne.symm (Nat.ne_of_lt (by omega)))
  have V2473 := V7_0.other W2449 (Ne.symm (Nat.ne_of_lt (by omega)))
  have V2474 := V8_0.other W2449 (Ne.symm (Nat.ne_of_lt (by omega)))
  have V2475 := V9_0.other W2449 (Ne.symm (Nat.ne_of_lt (by omega)))
  have V2476 := V10_0.other W2449 (Ne.symm (Nat.ne_of_lt (by omega)))
  refine own_aloadN X2449 hx (hb hby d15_22) rfl rfl 23 rfl ?_
  refine own_getF X2449 hx hZ hown (own_w hw 19 rfl) Via.refl e2449 F2457 (hb hby d15_23) 26 rfl (fun T2477 X2477 e2477 => ?_)
  refine own_iloadN X2477 hx (hb hby d15_26) rfl 27 rfl ?_
  refine own_aloadN X2477 hx (hb hby d15_27) rfl rfl 28 rfl ?_
  refine own_iloadN X2477 hx (hb hby d15_28) rfl 29 rfl ?_
  refine own_iload X2477 hx (hb hby d15_29) rfl 31 rfl ?_
  refine own_callV X2477 hx hZ hown (own_w hw 111 rfl) (own_w hw 112 rfl) (own_w hw 113 rfl) (own_nfS (own_niS hZ (own_w hw 60 rfl) (own_w hw 59 rfl) rfl)) (own_w hw 114 rfl) (own_w hw 2 rfl) (own_w hw 115 rfl) (by decide) e2477 E2452 (rm76 l Z a0 hw [] a a1_ a2_ a3_ a4_ a5_ a6_ a7_ a8_ a9_ a10_ a11_ va vb vp h2449 n0 Z2451 ga hord ⟨E2452, F2453, F2454, F2455, F2456, F2457, F2458, F2459, F2460, F2461, F2462, F2463, F2464, F2465, F2466, V2449, V2467, V2468, V2469, V2470, V2471, V2472, V2473, V2474, V2475, V2476⟩ hc) (by rw [hml]; rfl) pd_8 (argsL := [(.int (1 : Int32)), (.int (0 : Int32))]) rfl (rest := [(.int (0 : Int32)), (.ref a2_)]) rfl (hb hby d15_31) 2 (Nat.le_of_eq rfl) (by decide) (by decide) (by decide) (by decide) 34 rfl (fun T2482 L2482 v2482 X2482 hQ2482 => ?_)
  obtain ⟨rfl, N2482, e2482⟩ := hQ2482
  have N2483 := Fr.app N2450 N2482
  show own_Go p e below G (T2482.setTop (mkF m 34 #[.val (.ref a), .val (.int (1 : Int32)), .val (.int (-1 : Int32)), .val (.int (0 : Int32)), .val (.int (0 : Int32))] [(.int (1 : Int32)), (.int (0 : Int32)), (.ref a2_)]))
  refine own_ifN X2482 hx (hb hby d15_34) ((if0 _ _).trans (feq (by decide)).1) 37 rfl ?_
  refine own_iconst X2482 hx (hb hby d15_37) (0 : Int32) rfl 38 rfl ?_
  refine own_goto X2482 hx (hb hby d15_38) 42 ⟨by decide, by decide⟩ ?_
  refine own_iastore X2482 hx hZ e2482 V2467 0 rfl (by simp) (hb hby d15_42) 43 rfl (fun T2484 h2484 X2484 e2484 W2484 V2484 => ?_)
  have N2485 := Fr.snoc X2484 N2483 (by omega)
  have Z2486 : n0 ≤ h2484.size := by rw [W2484.size]; exact Z2451
  have E2487 := E2452.wr W2484
  have F2488 := F2453.other W2484 (Or.inl (Nat.ne_of_lt (by omega)))
  have F2489 := F2454.other W2484 (Or.inl (Nat.ne_of_lt (by omega)))
  have F2490 := F2455.other W2484 (Or.inl (Nat.ne_of_lt (by omega)))
  have F2491 := F2456.other W2484 (Or.inl (Nat.ne_of_lt (by omega)))
  have F2492 := F2457.other W2484 (Or.inl (Nat.ne_of_lt (by omega)))
  have F2493 := F2458.other W2484 (Or.inl (Nat.ne_of_lt (by omega)))
  have F2494 := F2459.other W2484 (Or.inl (Nat.ne_of_lt (by omega)))
  have F2495 := F2460.other W2484 (Or.inl (Nat.ne_of_lt (by omega)))
  have F2496 := F2461.other W2484 (Or.inl (Nat.ne_of_lt (by omega)))
  have F2497 := F2462.other W2484 (Or.inl (Nat.ne_of_lt (by omega)))
  have F2498 := F2463.other W2484 (Or.inl (Nat.ne_of_lt (by omega)))
  have F2499 := F2464.other W2484 (Or.inl (Nat.ne_of_lt (by omega)))
  have F2500 := F2465.other W2484 (Or.inl (Nat.ne_of_lt (by omega)))
  have F2501 := F2466.other W2484 (Or.inl (Nat.ne_of_lt (by omega)))
  have V2502 := V2468.other W2484 (Ne.symm (Nat.ne_of_lt (by omega)))
  have V2503 := V2469.other W2484 (Ne.symm (Nat.ne_of_lt (by omega)))
  have V2504 := V2470.other W2484 (Ne.symm (Nat.ne_of_lt (by omega)))
  have V2505 := V2471.other W2484 (Ne.symm (Nat.ne_of_lt (by omega)))
  have V2506 := V2472.other W2484 (Ne.symm (Nat.ne_of_lt (by omega)))
  have V2507 := V2473.other W2484 (Ne.symm (Nat.ne_of_lt (by omega)))
  have V2508 := V2474.other W2484 (Ne.symm (Nat.ne_of_lt (by omega)))
  have V2509 := V2475.other W2484 (Ne.symm (Nat.ne_of_lt (by omega)))
  have V2510 := V2476.other W2484 (Ne.symm (Nat.ne_of_lt (by omega)))
  have V2511 := V2449.other W2484 (Nat.ne_of_lt (by omega))
  refine own_aloadN X2484 hx (hb hby d15_43) rfl rfl 44 rfl ?_
  refine own_getF X2484 hx hZ hown (own_w hw 34 rfl) Via.refl e2484 F2497 (hb hby d15_44) 47 rfl (fun T2512 X2512 e2512 => ?_)
  refine own_aloadN X2512 hx (hb hby d15_47) rfl rfl 48 rfl ?_
  refine own_getF X2512 hx hZ hown (own_w hw 19 rfl) Via.refl e2512 F2492 (hb hby d15_48) 51 rfl (fun T2513 X2513 e2513 => ?_)
  refine own_iloadN X2513 hx (hb hby d15_51) rfl 52 rfl ?_
  refine own_iaload X2513 hx hZ e2513 V2484 0 rfl (0 : Int32) rfl (hb hby d15_52) 53 rfl ?_
  obtain ⟨clk, Ak, Sk, -⟩ := id V2506
  refine own_aaload X2513 hx hZ e2513 Ak rfl (v := .ref a5_) (by rw [Sk]; show ¬ ((0 : Int32) < 0 ∨ 2 ≤ Int32.toNatClampNeg 0); decide) (by rw [Sk]; rfl) (hb hby d15_53) 54 rfl ?_
  refine own_iload X2513 hx (hb hby d15_54) rfl 56 rfl ?_
  refine own_iaload X2513 hx hZ e2513 V2504 0 rfl (-1 : Int32) rfl (hb hby d15_56) 57 rfl ?_
  refine own_istore X2513 hx (hb hby d15_57) #[.val (.ref a), .val (.int (1 : Int32)), .val (.int (-1 : Int32)), .val (.int (0 : Int32)), .val (.int (-1 : Int32))] rfl 59 rfl ?_
  refine own_iinc X2513 hx (hb hby d15_59) rfl #[.val (.ref a), .val (.int (1 : Int32)), .val (.int (-1 : Int32)), .val (.int (1 : Int32)), .val (.int (-1 : Int32))] rfl 62 rfl ?_
  refine own_goto X2513 hx (hb hby d15_62) 8 ⟨by decide, by decide⟩ ?_
  refine own_iload X2513 hx (hb hby d15_8) rfl 10 rfl ?_
  refine own_iloadN X2513 hx (hb hby d15_10) rfl 11 rfl ?_
  refine own_icmpY X2513 hx (hb hby d15_11) (teq (by decide)).1 65 ⟨by decide, by decide⟩ ?_
  refine own_iloadN X2513 hx (hb hby d15_65) rfl 66 rfl ?_
  refine own_ireturn X2513 hx Bd.notSynchronized hG Bd.returns (hb hby d15_66) (by decide) (by decide) ?_
  rw [e2513]
  exact ⟨rfl, N2485, Z2486, ⟨E2487, F2488, F2489, F2490, F2491, F2492, F2493, F2494, F2495, F2496, F2497, F2498, F2499, F2500, F2501, V2511, V2484, V2502, V2503, V2504, V2505, V2506, V2507, V2508, V2509, V2510⟩⟩
def Q79 (Z : State) (a a1_ a2_ a3_ a4_ a5_ a6_ a7_ a8_ a9_ a10_ a11_ : Addr) (va vb vp : Int64) (h0 : Heap) (n0 : Nat) (v : Option Value) (h : Heap) (L : List Loc) : Prop := v = some (.int (1 : Int32)) ∧ Fr n0 L ∧ h = h0
theorem ef_rm79 (m : MethodId) (x0 : Addr) (x1 : Int32) : entryFrame m #[(.ref x0), (.int x1)] 2 = mkF m 0 #[.val (.ref x0), .val (.int x1)] [] := by first | (simp [entryFrame, mkF, argsToLocals, Value.category, maxLocals]; done) | rfl
set_option maxRecDepth 65536 in
set_option maxHeartbeats 40000000 in
theorem rm79 (l : Launch) (Z : State) (a0 : Array Value) (hw : ∀ d ∈ tables_1, d.before a0 Z = true) (ws : List Jvm.Cond) (a a1_ a2_ a3_ a4_ a5_ a6_ a7_ a8_ a9_ a10_ a11_ : Addr) (va vb vp : Int64) (h0 : Heap) (n0 : Nat) (Z0 : n0 ≤ h0.size) (ga : n0 ≤ a) (hord : own_Or a a1_ a2_ a3_ a4_ a5_ a6_ a7_ a8_ a9_ a10_ a11_) (B : own_PE Z h0 a a1_ a2_ a3_ a4_ a5_ a6_ a7_ a8_ a9_ a10_ a11_ (0 : Int32) (0 : Int32) (2 : Int32) ((List.replicate 127 (0 : Int32)).set 0 (0 : Int32)) ((List.replicate 127 (0 : Int32)).set 0 (0 : Int32)) [(0 : Int32), (1 : Int32)] [(1 : Int32), (0 : Int32)] [(1 : Int32), (-1 : Int32)] [(-1 : Int32), (-1 : Int32)] [(1 : Int32), (1 : Int32)] [va, vb] [vp, vp] [(((0 : Int64) + vp) + (0 : Int64)), (((0 : Int64) + vp) + (0 : Int64))]) (hc : vb < va) :
    MetFree l own_y9 (head1 (Jvm.Cond.code own_y9 prog_49_method_28_code 2 (some .int) :: ws) ({ frames := 0, cells := 0, slots := 0, locals := 0 } : Room)) (fun aR U => aR = #[(.ref a), (.int (1 : Int32))] ∧ Z.Warmed39 U.vm ∧ U.heap = h0) (fun _ _ _ _ _ => True) (fun _ U o U' => ∃ v L, o = .returned v ∧ Q79 Z a a1_ a2_ a3_ a4_ a5_ a6_ a7_ a8_ a9_ a10_ a11_ va vb vp h0 n0 v U'.heap L ∧ FrameEnd U o U' L ({ frames := 0, cells := 0, slots := 0, locals := 0 } : Room).cells ({ frames := 0, cells := 0, slots := 0, locals := 0 } : Room).slots) := by
  refine MetFree.of_bodySF pf_9 hisR ?_
  intro p e s m args below meth c s₁ Bd hml0 hP hK
  obtain ⟨rfl, hZ, hhE⟩ := hP
  have hx := Bd.exec
  have hby := Bd.bytes
  have hml : c.maxLocals = 2 := hml0
  have hown : s.vm.findClass "com/example/equitide/equitide/policy/backfilling/AvlTree" = some m.cls := findClass_of_methodNamed Bd.named
  have hnm := (name_of_methodNamed Bd.named Bd.method).1
  have X0 : Stand p l e ({ frames := 0, cells := 0, slots := 0, locals := 0 } : Room) s m #[(.ref a), (.int (1 : Int32))] below meth c s₁ [] 0 0 := Stand.of_body Bd
  have e0 : s₁.heap = h0 := by rw [← hhE, Bd.state]; rfl
  have N0 := Fr.nil n0
  show own_Go p e below (own_Post s (Q79 Z a a1_ a2_ a3_ a4_ a5_ a6_ a7_ a8_ a9_ a10_ a11_ va vb vp h0 n0) ({ frames := 0, cells := 0, slots := 0, locals := 0 } : Room).cells ({ frames := 0, cells := 0, slots := 0, locals := 0 } : Room).slots) (s₁.setTop (entryFrame m #[(.ref a), (.int (1 : Int32))] 2))
  rw [ef_rm79]
  generalize hG : own_Post s (Q79 Z a a1_ a2_ a3_ a4_ a5_ a6_ a7_ a8_ a9_ a10_ a11_ va vb vp h0 n0) ({ frames := 0, cells := 0, slots := 0, locals := 0 } : Room).cells ({ frames := 0, cells := 0, slots := 0, locals := 0 } : Room).slots = G
  obtain ⟨o1, o2, o3, o4, o5, o6, o7, o8, o9, o10, o11⟩ := id hord
  obtain ⟨E0, F0_0, F1_0, F2_0, F3_0, F4_0, F5_0, F6_0, F7_0, F8_0, F9_0, F10_0, F11_0, F12_0, F13_0, V0_0, V1_0, V2_0, V3_0, V4_0, V5_0, V6_0, V7_0, V8_0, V9_0, V10_0⟩ := B
  refine own_iloadN X0 hx (hb hby d9_0) rfl 1 rfl ?_
  refine own_iconst X0 hx (hb hby d9_1) (-1 : Int32) rfl 2 rfl ?_
  refine own_icmpY X0 hx (hb hby d9_2) (feq (by decide)).2 9 ⟨by decide, by decide⟩ ?_
  refine own_aloadN X0 hx (hb hby d9_9) rfl rfl 10 rfl ?_
  refine own_getF X0 hx hZ hown (own_w hw 37 rfl) Via.refl e0 F10_0 (hb hby d9_10) 13 rfl (fun T2549 X2549 e2549 => ?_)
  refine own_iloadN X2549 hx (hb hby d9_13) rfl 14 rfl ?_
  refine own_baload X2549 hx hZ e2549 V7_0 1 rfl (1 : Int32) rfl (hb hby d9_14) 15 rfl ?_
  refine own_ireturn X2549 hx Bd.notSynchronized hG Bd.returns (hb hby d9_15) (by decide) (by decide) ?_
  rw [e2549]
  exact ⟨rfl, N0, rfl⟩
def Q80 (Z : State) (a a1_ a2_ a3_ a4_ a5_ a6_ a7_ a8_ a9_ a10_ a11_ : Addr) (va vb vp : Int64) (h0 : Heap) (n0 : Nat) (v : Option Value) (h : Heap) (L : List Loc) : Prop := v = some (.int (0 : Int32)) ∧ Fr n0 L ∧ h = h0
theorem ef_rm80 (m : MethodId) (x0 : Addr) (x1 : Int32) : entryFrame m #[(.ref x0), (.int x1)] 2 = mkF m 0 #[.val (.ref x0), .val (.int x1)] [] := by first | (simp [entryFrame, mkF, argsToLocals, Value.category, maxLocals]; done) | rfl
set_option maxRecDepth 65536 in
set_option maxHeartbeats 40000000 in
theorem rm80 (l : Launch) (Z : State) (a0 : Array Value) (hw : ∀ d ∈ tables_1, d.before a0 Z = true) (ws : List Jvm.Cond) (a a1_ a2_ a3_ a4_ a5_ a6_ a7_ a8_ a9_ a10_ a11_ : Addr) (va vb vp : Int64) (h0 : Heap) (n0 : Nat) (Z0 : n0 ≤ h0.size) (ga : n0 ≤ a) (hord : own_Or a a1_ a2_ a3_ a4_ a5_ a6_ a7_ a8_ a9_ a10_ a11_) (B : own_PE Z h0 a a1_ a2_ a3_ a4_ a5_ a6_ a7_ a8_ a9_ a10_ a11_ (0 : Int32) (0 : Int32) (2 : Int32) ((List.replicate 127 (0 : Int32)).set 0 (0 : Int32)) ((List.replicate 127 (0 : Int32)).set 0 (0 : Int32)) [(0 : Int32), (1 : Int32)] [(1 : Int32), (0 : Int32)] [(1 : Int32), (-1 : Int32)] [(-1 : Int32), (-1 : Int32)] [(1 : Int32), (1 : Int32)] [va, vb] [vp, vp] [(((0 : Int64) + vp) + (0 : Int64)), (((0 : Int64) + vp) + (0 : Int64))]) (hc : vb < va) :
    MetFree l own_y9 (head1 (Jvm.Cond.code own_y9 prog_49_method_28_code 2 (some .int) :: ws) ({ frames := 0, cells := 0, slots := 0, locals := 0 } : Room)) (fun aR U => aR = #[(.ref a), (.int (-1 : Int32))] ∧ Z.Warmed39 U.vm ∧ U.heap = h0) (fun _ _ _ _ _ => True) (fun _ U o U' => ∃ v L, o = .returned v ∧ Q80 Z a a1_ a2_ a3_ a4_ a5_ a6_ a7_ a8_ a9_ a10_ a11_ va vb vp h0 n0 v U'.heap L ∧ FrameEnd U o U' L ({ frames := 0, cells := 0, slots := 0, locals := 0 } : Room).cells ({ frames := 0, cells := 0, slots := 0, locals := 0 } : Room).slots) := by
  refine MetFree.of_bodySF pf_9 hisR ?_
  intro p e s m args below meth c s₁ Bd hml0 hP hK
  obtain ⟨rfl, hZ, hhE⟩ := hP
  have hx := Bd.exec
  have hby := Bd.bytes
  have hml : c.maxLocals = 2 := hml0
  have hown : s.vm.findClass "com/example/equitide/equitide/policy/backfilling/AvlTree" = some m.cls := findClass_of_methodNamed Bd.named
  have hnm := (name_of_methodNamed Bd.named Bd.method).1
  have X0 : Stand p l e ({ frames := 0, cells := 0, slots := 0, locals := 0 } : Room) s m #[(.ref a), (.int (-1 : Int32))] below meth c s₁ [] 0 0 := Stand.of_body Bd
  have e0 : s₁.heap = h0 := by rw [← hhE, Bd.state]; rfl
  have N0 := Fr.nil n0
  show own_Go p e below (own_Post s (Q80 Z a a1_ a2_ a3_ a4_ a5_ a6_ a7_ a8_ a9_ a10_ a11_ va vb vp h0 n0) ({ frames := 0, cells := 0, slots := 0, locals := 0 } : Room).cells ({ frames := 0, cells := 0, slots := 0, locals := 0 } : Room).slots) (s₁.setTop (entryFrame m #[(.ref a), (.int (-1 : Int32))] 2))
  rw [ef_rm80]
  generalize hG : own_Post s (Q80 Z a a1_ a2_ a3_ a4_ a5_ a6_ a7_ a8_ a9_ a10_ a11_ va vb vp h0 n0) ({ frames := 0, cells := 0, slots := 0, locals := 0 } : Room).cells ({ frames := 0, cells := 0, slots := 0, locals := 0 } : Room).slots = G
  obtain ⟨o1, o2, o3, o4, o5, o6, o7, o8, o9, o10, o11⟩ := id hord
  obtain ⟨E0, F0_0, F1_0, F2_0, F3_0, F4_0, F5_0, F6_0, F7_0, F8_0, F9_0, F10_0, F11_0, F12_0, F13_0, V0_0, V1_0, V2_0, V3_0, V4_0, V5_0, V6_0, V7_0, V8_0, V9_0, V10_0⟩ := B
  refine own_iloadN X0 hx (hb hby d9_0) rfl 1 rfl ?_
  refine own_iconst X0 hx (hb hby d9_1) (-1 : Int32) rfl 2 rfl ?_
  refine own_icmpN X0 hx (hb hby d9_2) (teq (by decide)).2 5 rfl ?_
  refine own_iconst X0 hx (hb hby d9_5) (0 : Int32) rfl 6 rfl ?_
  refine own_goto X0 hx (hb hby d9_6) 15 ⟨by decide, by decide⟩ ?_
  refine own_ireturn X0 hx Bd.notSynchronized hG Bd.returns (hb hby d9_15) (by decide) (by decide) ?_
  rw [e0]
  exact ⟨rfl, N0, rfl⟩
def Q83 (Z : State) (a a1_ a2_ a3_ a4_ a5_ a6_ a7_ a8_ a9_ a10_ a11_ : Addr) (va vb vp : Int64) (h0 : Heap) (n0 : Nat) (v : Option Value) (h : Heap) (L : List Loc) : Prop := v = some (.int (1 : Int32)) ∧ Fr n0 L ∧ h = h0
theorem ef_rm83 (m : MethodId) (x0 : Addr) (x1 : Int32) : entryFrame m #[(.ref x0), (.int x1)] 2 = mkF m 0 #[.val (.ref x0), .val (.int x1)] [] := by first | (simp [entryFrame, mkF, argsToLocals, Value.category, maxLocals]; done) | rfl
set_option maxRecDepth 65536 in
set_option maxHeartbeats 40000000 in
theorem rm83 (l : Launch) (Z : State) (a0 : Array Value) (hw : ∀ d ∈ tables_1, d.before a0 Z = true) (ws : List Jvm.Cond) (a a1_ a2_ a3_ a4_ a5_ a6_ a7_ a8_ a9_ a10_ a11_ : Addr) (va vb vp : Int64) (h0 : Heap) (n0 : Nat) (Z0 : n0 ≤ h0.size) (ga : n0 ≤ a) (hord : own_Or a a1_ a2_ a3_ a4_ a5_ a6_ a7_ a8_ a9_ a10_ a11_) (B : own_PE Z h0 a a1_ a2_ a3_ a4_ a5_ a6_ a7_ a8_ a9_ a10_ a11_ (0 : Int32) (0 : Int32) (2 : Int32) ((List.replicate 127 (0 : Int32)).set 0 (0 : Int32)) ((List.replicate 127 (0 : Int32)).set 0 (0 : Int32)) [(0 : Int32), (1 : Int32)] [(1 : Int32), (0 : Int32)] [(1 : Int32), (-1 : Int32)] [(-1 : Int32), (-1 : Int32)] [(2 : Int32), (1 : Int32)] [va, vb] [vp, vp] [(((0 : Int64) + vp) + (0 : Int64)), (((0 : Int64) + vp) + (0 : Int64))]) (hc : vb < va) :
    MetFree l own_y12 (head1 (Jvm.Cond.code own_y12 prog_49_method_7_code 2 (some .int) :: ws) ({ frames := 0, cells := 0, slots := 0, locals := 0 } : Room)) (fun aR U => aR = #[(.ref a), (.int (0 : Int32))] ∧ Z.Warmed39 U.vm ∧ U.heap = h0) (fun _ _ _ _ _ => True) (fun _ U o U' => ∃ v L, o = .returned v ∧ Q83 Z a a1_ a2_ a3_ a4_ a5_ a6_ a7_ a8_ a9_ a10_ a11_ va vb vp h0 n0 v U'.heap L ∧ FrameEnd U o U' L ({ frames := 0, cells := 0, slots := 0, locals := 0 } : Room).cells ({ frames := 0, cells := 0, slots := 0, locals := 0 } : Room).slots) := by
  refine MetFree.of_bodySF pf_12 hisR ?_
  intro p e s m args below meth c s₁ Bd hml0 hP hK
  obtain ⟨rfl, hZ, hhE⟩ := hP
  have hx := Bd.exec
  have hby := Bd.bytes
  have hml : c.maxLocals = 2 := hml0
  have hown : s.vm.findClass "com/example/equitide/equitide/policy/backfilling/AvlTree" = some m.cls := findClass_of_methodNamed Bd.named
  have hnm := (name_of_methodNamed Bd.named Bd.method).1
  have X0 : Stand p l e ({ frames := 0, cells := 0, slots := 0, locals := 0 } : Room) s m #[(.ref a), (.int (0 : Int32))] below meth c s₁ [] 0 0 := Stand.of_body Bd
  have e0 : s₁.heap = h0 := by rw [← hhE, Bd.state]; rfl
  have N0 := Fr.nil n0
  show own_Go p e below (own_Post s (Q83 Z a a1_ a2_ a3_ a4_ a5_ a6_ a7_ a8_ a9_ a10_ a11_ va vb vp h0 n0) ({ frames := 0, cells := 0, slots := 0, locals := 0 } : Room).cells ({ frames := 0, cells := 0, slots := 0, locals := 0 } : Room).slots) (s₁.setTop (entryFrame m #[(.ref a), (.int (0 : Int32))] 2))
  rw [ef_rm83]
  generalize hG : own_Post s (Q83 Z a a1_ a2_ a3_ a4_ a5_ a6_ a7_ a8_ a9_ a10_ a11_ va vb vp h0 n0) ({ frames := 0, cells := 0, slots := 0, locals := 0 } : Room).cells ({ frames := 0, cells := 0, slots := 0, locals := 0 } : Room).slots = G
  obtain ⟨o1, o2, o3, o4, o5, o6, o7, o8, o9, o10, o11⟩ := id hord
  obtain ⟨E0, F0_0, F1_0, F2_0, F3_0, F4_0, F5_0, F6_0, F7_0, F8_0, F9_0, F10_0, F11_0, F12_0, F13_0, V0_0, V1_0, V2_0, V3_0, V4_0, V5_0, V6_0, V7_0, V8_0, V9_0, V10_0⟩ := B
  refine own_aloadN X0 hx (hb hby d12_0) rfl rfl 1 rfl ?_
  refine own_getF X0 hx hZ hown (own_w hw 27 rfl) Via.refl e0 F7_0 (hb hby d12_1) 4 rfl (fun T2593 X2593 e2593 => ?_)
  refine own_iloadN X2593 hx (hb hby d12_4) rfl 5 rfl ?_
  refine own_iaload X2593 hx hZ e2593 V4_0 0 rfl (1 : Int32) rfl (hb hby d12_5) 6 rfl ?_
  refine own_ireturn X2593 hx Bd.notSynchronized hG Bd.returns (hb hby d12_6) (by decide) (by decide) ?_
  rw [e2593]
  exact ⟨rfl, N0, rfl⟩
def Q84 (Z : State) (a a1_ a2_ a3_ a4_ a5_ a6_ a7_ a8_ a9_ a10_ a11_ : Addr) (va vb vp : Int64) (h0 : Heap) (n0 : Nat) (v : Option Value) (h : Heap) (L : List Loc) : Prop := v = some (.long (((0 : Int64) + vp) + (0 : Int64))) ∧ Fr n0 L ∧ h = h0
theorem ef_rm84 (m : MethodId) (x0 : Addr) (x1 : Int32) : entryFrame m #[(.ref x0), (.int x1)] 2 = mkF m 0 #[.val (.ref x0), .val (.int x1)] [] := by first | (simp [entryFrame, mkF, argsToLocals, Value.category, maxLocals]; done) | rfl
set_option maxRecDepth 65536 in
set_option maxHeartbeats 40000000 in
theorem rm84 (l : Launch) (Z : State) (a0 : Array Value) (hw : ∀ d ∈ tables_1, d.before a0 Z = true) (ws : List Jvm.Cond) (a a1_ a2_ a3_ a4_ a5_ a6_ a7_ a8_ a9_ a10_ a11_ : Addr) (va vb vp : Int64) (h0 : Heap) (n0 : Nat) (Z0 : n0 ≤ h0.size) (ga : n0 ≤ a) (hord : own_Or a a1_ a2_ a3_ a4_ a5_ a6_ a7_ a8_ a9_ a10_ a11_) (B : own_PE Z h0 a a1_ a2_ a3_ a4_ a5_ a6_ a7_ a8_ a9_ a10_ a11_ (0 : Int32) (0 : Int32) (2 : Int32) ((List.replicate 127 (0 : Int32)).set 0 (0 : Int32)) ((List.replicate 127 (0 : Int32)).set 0 (0 : Int32)) [(0 : Int32), (1 : Int32)] [(1 : Int32), (0 : Int32)] [(1 : Int32), (-1 : Int32)] [(-1 : Int32), (-1 : Int32)] [(2 : Int32), (1 : Int32)] [va, vb] [vp, vp] [(((0 : Int64) + vp) + (0 : Int64)), (((0 : Int64) + vp) + (0 : Int64))]) (hc : vb < va) :
    MetFree l own_y13 (head1 (Jvm.Cond.code own_y13 prog_66_method_10_code 2 (some .long) :: ws) ({ frames := 0, cells := 0, slots := 0, locals := 0 } : Room)) (fun aR U => aR = #[(.ref a), (.int (1 : Int32))] ∧ Z.Warmed39 U.vm ∧ U.heap = h0) (fun _ _ _ _ _ => True) (fun _ U o U' => ∃ v L, o = .returned v ∧ Q84 Z a a1_ a2_ a3_ a4_ a5_ a6_ a7_ a8_ a9_ a10_ a11_ va vb vp h0 n0 v U'.heap L ∧ FrameEnd U o U' L ({ frames := 0, cells := 0, slots := 0, locals := 0 } : Room).cells ({ frames := 0, cells := 0, slots := 0, locals := 0 } : Room).slots) := by
  refine MetFree.of_bodySF pf_13 hisR ?_
  intro p e s m args below meth c s₁ Bd hml0 hP hK
  obtain ⟨rfl, hZ, hhE⟩ := hP
  have hx := Bd.exec
  have hby := Bd.bytes
  have hml : c.maxLocals = 2 := hml0
  have hown : s.vm.findClass "com/example/equitide/equitide/policy/backfilling/PlannedEnds" = some m.cls := findClass_of_methodNamed Bd.named
  have hnm := (name_of_methodNamed Bd.named Bd.method).1
  have X0 : Stand p l e ({ frames := 0, cells := 0, slots := 0, locals := 0 } : Room) s m #[(.ref a), (.int (1 : Int32))] below meth c s₁ [] 0 0 := Stand.of_body Bd
  have e0 : s₁.heap = h0 := by rw [← hhE, Bd.state]; rfl
  have N0 := Fr.nil n0
  show own_Go p e below (own_Post s (Q84 Z a a1_ a2_ a3_ a4_ a5_ a6_ a7_ a8_ a9_ a10_ a11_ va vb vp h0 n0) ({ frames := 0, cells := 0, slots := 0, locals := 0 } : Room).cells ({ frames := 0, cells := 0, slots := 0, locals := 0 } : Room).slots) (s₁.setTop (entryFrame m #[(.ref a), (.int (1 : Int32))] 2))
  rw [ef_rm84]
  generalize hG : own_Post s (Q84 Z a a1_ a2_ a3_ a4_ a5_ a6_ a7_ a8_ a9_ a10_ a11_ va vb vp h0 n0) ({ frames := 0, cells := 0, slots := 0, locals := 0 } : Room).cells ({ frames := 0, cells := 0, slots := 0, locals := 0 } : Room).slots = G
  obtain ⟨o1, o2, o3, o4, o5, o6, o7, o8, o9, o10, o11⟩ := id hord
  obtain ⟨E0, F0_0, F1_0, F2_0, F3_0, F4_0, F5_0, F6_0, F7_0, F8_0, F9_0, F10_0, F11_0, F12_0, F13_0, V0_0, V1_0, V2_0, V3_0, V4_0, V5_0, V6_0, V7_0, V8_0, V9_0, V10_0⟩ := B
  refine own_iloadN X0 hx (hb hby d13_0) rfl 1 rfl ?_
  refine own_iconst X0 hx (hb hby d13_1) (-1 : Int32) rfl 2 rfl ?_
  refine own_icmpY X0 hx (hb hby d13_2) (feq (by decide)).2 9 ⟨by decide, by decide⟩ ?_
  refine own_aloadN X0 hx (hb hby d13_9) rfl rfl 10 rfl ?_
  refine own_getF X0 hx hZ hown (own_w hw 44 rfl) Via.refl e0 F13_0 (hb hby d13_10) 13 rfl (fun T2596 X2596 e2596 => ?_)
  refine own_iloadN X2596 hx (hb hby d13_13) rfl 14 rfl ?_
  refine own_laload X2596 hx hZ e2596 V10_0 1 rfl (((0 : Int64) + vp) + (0 : Int64)) rfl (hb hby d13_14) 15 rfl ?_
  refine own_lreturn X2596 hx Bd.notSynchronized hG Bd.returns (hb hby d13_15) (by decide) (by decide) ?_
  rw [e2596]
  exact ⟨rfl, N0, rfl⟩
def Q85 (Z : State) (a a1_ a2_ a3_ a4_ a5_ a6_ a7_ a8_ a9_ a10_ a11_ : Addr) (va vb vp : Int64) (h0 : Heap) (n0 : Nat) (v : Option Value) (h : Heap) (L : List Loc) : Prop := v = some (.int (-1 : Int32)) ∧ Fr n0 L ∧ h = h0
theorem ef_rm85 (m : MethodId) (x0 : Addr) (x1 : Int32) : entryFrame m #[(.ref x0), (.int x1)] 2 = mkF m 0 #[.val (.ref x0), .val (.int x1)] [] := by first | (simp [entryFrame, mkF, argsToLocals, Value.category, maxLocals]; done) | rfl
set_option maxRecDepth 65536 in
set_option maxHeartbeats 40000000 in
theorem rm85 (l : Launch) (Z : State) (a0 : Array Value) (hw : ∀ d ∈ tables_1, d.before a0 Z = true) (ws : List Jvm.Cond) (a a1_ a2_ a3_ a4_ a5_ a6_ a7_ a8_ a9_ a10_ a11_ : Addr) (va vb vp : Int64) (h0 : Heap) (n0 : Nat) (Z0 : n0 ≤ h0.size) (ga : n0 ≤ a) (hord : own_Or a a1_ a2_ a3_ a4_ a5_ a6_ a7_ a8_ a9_ a10_ a11_) (B : own_PE Z h0 a a1_ a2_ a3_ a4_ a5_ a6_ a7_ a8_ a9_ a10_ a11_ (0 : Int32) (0 : Int32) (2 : Int32) ((List.replicate 127 (0 : Int32)).set 0 (0 : Int32)) ((List.replicate 127 (0 : Int32)).set 0 (0 : Int32)) [(0 : Int32), (1 : Int32)] [(1 : Int32), (0 : Int32)] [(1 : Int32), (-1 : Int32)] [(-1 : Int32), (-1 : Int32)] [(2 : Int32), (1 : Int32)] [va, vb] [vp, vp] [(((0 : Int64) + vp) + (0 : Int64)), (((0 : Int64) + vp) + (0 : Int64))]) (hc : vb < va) :
    MetFree l own_y14 (head1 (Jvm.Cond.code own_y14 prog_49_method_8_code 2 (some .int) :: ws) ({ frames := 0, cells := 0, slots := 0, locals := 0 } : Room)) (fun aR U => aR = #[(.ref a), (.int (0 : Int32))] ∧ Z.Warmed39 U.vm ∧ U.heap = h0) (fun _ _ _ _ _ => True) (fun _ U o U' => ∃ v L, o = .returned v ∧ Q85 Z a a1_ a2_ a3_ a4_ a5_ a6_ a7_ a8_ a9_ a10_ a11_ va vb vp h0 n0 v U'.heap L ∧ FrameEnd U o U' L ({ frames := 0, cells := 0, slots := 0, locals := 0 } : Room).cells ({ frames := 0, cells := 0, slots := 0, locals := 0 } : Room).slots) := by
  refine MetFree.of_bodySF pf_14 hisR ?_
  intro p e s m args below meth c s₁ Bd hml0 hP hK
  obtain ⟨rfl, hZ, hhE⟩ := hP
  have hx := Bd.exec
  have hby := Bd.bytes
  have hml : c.maxLocals = 2 := hml0
  have hown : s.vm.findClass "com/example/equitide/equitide/policy/backfilling/AvlTree" = some m.cls := findClass_of_methodNamed Bd.named
  have hnm := (name_of_methodNamed Bd.named Bd.method).1
  have X0 : Stand p l e ({ frames := 0, cells := 0, slots := 0, locals := 0 } : Room) s m #[(.ref a), (.int (0 : Int32))] below meth c s₁ [] 0 0 := Stand.of_body Bd
  have e0 : s₁.heap = h0 := by rw [← hhE, Bd.state]; rfl
  have N0 := Fr.nil n0
  show own_Go p e below (own_Post s (Q85 Z a a1_ a2_ a3_ a4_ a5_ a6_ a7_ a8_ a9_ a10_ a11_ va vb vp h0 n0) ({ frames := 0, cells := 0, slots := 0, locals := 0 } : Room).cells ({ frames := 0, cells := 0, slots := 0, locals := 0 } : Room).slots) (s₁.setTop (entryFrame m #[(.ref a), (.int (0 : Int32))] 2))
  rw [ef_rm85]
  generalize hG : own_Post s (Q85 Z a a1_ a2_ a3_ a4_ a5_ a6_ a7_ a8_ a9_ a10_ a11_ va vb vp h0 n0) ({ frames := 0, cells := 0, slots := 0, locals := 0 } : Room).cells ({ frames := 0, cells := 0, slots := 0, locals := 0 } : Room).slots = G
  obtain ⟨o1, o2, o3, o4, o5, o6, o7, o8, o9, o10, o11⟩ := id hord
  obtain ⟨E0, F0_0, F1_0, F2_0, F3_0, F4_0, F5_0, F6_0, F7_0, F8_0, F9_0, F10_0, F11_0, F12_0, F13_0, V0_0, V1_0, V2_0, V3_0, V4_0, V5_0, V6_0, V7_0, V8_0, V9_0, V10_0⟩ := B
  refine own_aloadN X0 hx (hb hby d14_0) rfl rfl 1 rfl ?_
  refine own_getF X0 hx hZ hown (own_w hw 29 rfl) Via.refl e0 F8_0 (hb hby d14_1) 4 rfl (fun T2600 X2600 e2600 => ?_)
  refine own_iloadN X2600 hx (hb hby d14_4) rfl 5 rfl ?_
  refine own_iaload X2600 hx hZ e2600 V5_0 0 rfl (-1 : Int32) rfl (hb hby d14_5) 6 rfl ?_
  refine own_ireturn X2600 hx Bd.notSynchronized hG Bd.returns (hb hby d14_6) (by decide) (by decide) ?_
  rw [e2600]
  exact ⟨rfl, N0, rfl⟩
def Q86 (Z : State) (a a1_ a2_ a3_ a4_ a5_ a6_ a7_ a8_ a9_ a10_ a11_ : Addr) (va vb vp : Int64) (h0 : Heap) (n0 : Nat) (v : Option Value) (h : Heap) (L : List Loc) : Prop := v = some (.long (0 : Int64)) ∧ Fr n0 L ∧ h = h0
theorem ef_rm86 (m : MethodId) (x0 : Addr) (x1 : Int32) : entryFrame m #[(.ref x0), (.int x1)] 2 = mkF m 0 #[.val (.ref x0), .val (.int x1)] [] := by first | (simp [entryFrame, mkF, argsToLocals, Value.category, maxLocals]; done) | rfl
set_option maxRecDepth 65536 in
set_option maxHeartbeats 40000000 in
theorem rm86 (l : Launch) (Z : State) (a0 : Array Value) (hw : ∀ d ∈ tables_1, d.before a0 Z = true) (ws : List Jvm.Cond) (a a1_ a2_ a3_ a4_ a5_ a6_ a7_ a8_ a9_ a10_ a11_ : Addr) (va vb vp : Int64) (h0 : Heap) (n0 : Nat) (Z0 : n0 ≤ h0.size) (ga : n0 ≤ a) (hord : own_Or a a1_ a2_ a3_ a4_ a5_ a6_ a7_ a8_ a9_ a10_ a11_) (B : own_PE Z h0 a a1_ a2_ a3_ a4_ a5_ a6_ a7_ a8_ a9_ a10_ a11_ (0 : Int32) (0 : Int32) (2 : Int32) ((List.replicate 127 (0 : Int32)).set 0 (0 : Int32)) ((List.replicate 127 (0 : Int32)).set 0 (0 : Int32)) [(0 : Int32), (1 : Int32)] [(1 : Int32), (0 : Int32)] [(1 : Int32), (-1 : Int32)] [(-1 : Int32), (-1 : Int32)] [(2 : Int32), (1 : Int32)] [va, vb] [vp, vp] [(((0 : Int64) + vp) + (0 : Int64)), (((0 : Int64) + vp) + (0 : Int64))]) (hc : vb < va) :
    MetFree l own_y13 (head1 (Jvm.Cond.code own_y13 prog_66_method_10_code 2 (some .long) :: ws) ({ frames := 0, cells := 0, slots := 0, locals := 0 } : Room)) (fun aR U => aR = #[(.ref a), (.int (-1 : Int32))] ∧ Z.Warmed39 U.vm ∧ U.heap = h0) (fun _ _ _ _ _ => True) (fun _ U o U' => ∃ v L, o = .returned v ∧ Q86 Z a a1_ a2_ a3_ a4_ a5_ a6_ a7_ a8_ a9_ a10_ a11_ va vb vp h0 n0 v U'.heap L ∧ FrameEnd U o U' L ({ frames := 0, cells := 0, slots := 0, locals := 0 } : Room).cells ({ frames := 0, cells := 0, slots := 0, locals := 0 } : Room).slots) := by
  refine MetFree.of_bodySF pf_13 hisR ?_
  intro p e s m args below meth c s₁ Bd hml0 hP hK
  obtain ⟨rfl, hZ, hhE⟩ := hP
  have hx := Bd.exec
  have hby := Bd.bytes
  have hml : c.maxLocals = 2 := hml0
  have hown : s.vm.findClass "com/example/equitide/equitide/policy/backfilling/PlannedEnds" = some m.cls := findClass_of_methodNamed Bd.named
  have hnm := (name_of_methodNamed Bd.named Bd.method).1
  have X0 : Stand p l e ({ frames := 0, cells := 0, slots := 0, locals := 0 } : Room) s m #[(.ref a), (.int (-1 : Int32))] below meth c s₁ [] 0 0 := Stand.of_body Bd
  have e0 : s₁.heap = h0 := by rw [← hhE, Bd.state]; rfl
  have N0 := Fr.nil n0
  show own_Go p e below (own_Post s (Q86 Z a a1_ a2_ a3_ a4_ a5_ a6_ a7_ a8_ a9_ a10_ a11_ va vb vp h0 n0) ({ frames := 0, cells := 0, slots := 0, locals := 0 } : Room).cells ({ frames := 0, cells := 0, slots := 0, locals := 0 } : Room).slots) (s₁.setTop (entryFrame m #[(.ref a), (.int (-1 : Int32))] 2))
  rw [ef_rm86]
  generalize hG : own_Post s (Q86 Z a a1_ a2_ a3_ a4_ a5_ a6_ a7_ a8_ a9_ a10_ a11_ va vb vp h0 n0) ({ frames := 0, cells := 0, slots := 0, locals := 0 } : Room).cells ({ frames := 0, cells := 0, slots := 0, locals := 0 } : Room).slots = G
  obtain ⟨o1, o2, o3, o4, o5, o6, o7, o8, o9, o10, o11⟩ := id hord
  obtain ⟨E0, F0_0, F1_0, F2_0, F3_0, F4_0, F5_0, F6_0, F7_0, F8_0, F9_0, F10_0, F11_0, F12_0, F13_0, V0_0, V1_0, V2_0, V3_0, V4_0, V5_0, V6_0, V7_0, V8_0, V9_0, V10_0⟩ := B
  refine own_iloadN X0 hx (hb hby d13_0) rfl 1 rfl ?_
  refine own_iconst X0 hx (hb hby d13_1) (-1 : Int32) rfl 2 rfl ?_
  refine own_icmpN X0 hx (hb hby d13_2) (teq (by decide)).2 5 rfl ?_
  refine own_lconst X0 hx (hb hby d13_5) (0 : Int64) rfl 6 rfl ?_
  refine own_goto X0 hx (hb hby d13_6) 15 ⟨by decide, by decide⟩ ?_
  refine own_lreturn X0 hx Bd.notSynchronized hG Bd.returns (hb hby d13_15) (by decide) (by decide) ?_
  rw [e0]
  exact ⟨rfl, N0, rfl⟩
def Q82 (Z : State) (a a1_ a2_ a3_ a4_ a5_ a6_ a7_ a8_ a9_ a10_ a11_ : Addr) (va vb vp : Int64) (h0 : Heap) (n0 : Nat) (v : Option Value) (h : Heap) (L : List Loc) : Prop := v = none ∧ Fr n0 L ∧ n0 ≤ h.size ∧ own_PE Z h a a1_ a2_ a3_ a4_ a5_ a6_ a7_ a8_ a9_ a10_ a11_ (0 : Int32) (0 : Int32) (2 : Int32) ((List.replicate 127 (0 : Int32)).set 0 (0 : Int32)) ((List.replicate 127 (0 : Int32)).set 0 (0 : Int32)) [(0 : Int32), (1 : Int32)] [(1 : Int32), (0 : Int32)] [(1 : Int32), (-1 : Int32)] [(-1 : Int32), (-1 : Int32)] [(2 : Int32), (1 : Int32)] [va, vb] [vp, vp] [(((((0 : Int64) + vp) + (0 : Int64)) + vp) + (0 : Int64)), (((0 : Int64) + vp) + (0 : Int64))]
theorem ef_rm82 (m : MethodId) (x0 : Addr) (x1 : Int32) : entryFrame m #[(.ref x0), (.int x1)] 2 = mkF m 0 #[.val (.ref x0), .val (.int x1)] [] := by first | (simp [entryFrame, mkF, argsToLocals, Value.category, maxLocals]; done) | rfl
set_option maxRecDepth 65536 in
set_option maxHeartbeats 40000000 in
theorem rm82 (l : Launch) (Z : State) (a0 : Array Value) (hw : ∀ d ∈ tables_1, d.before a0 Z = true) (ws : List Jvm.Cond) (a a1_ a2_ a3_ a4_ a5_ a6_ a7_ a8_ a9_ a10_ a11_ : Addr) (va vb vp : Int64) (h0 : Heap) (n0 : Nat) (Z0 : n0 ≤ h0.size) (ga : n0 ≤ a) (hord : own_Or a a1_ a2_ a3_ a4_ a5_ a6_ a7_ a8_ a9_ a10_ a11_) (B : own_PE Z h0 a a1_ a2_ a3_ a4_ a5_ a6_ a7_ a8_ a9_ a10_ a11_ (0 : Int32) (0 : Int32) (2 : Int32) ((List.replicate 127 (0 : Int32)).set 0 (0 : Int32)) ((List.replicate 127 (0 : Int32)).set 0 (0 : Int32)) [(0 : Int32), (1 : Int32)] [(1 : Int32), (0 : Int32)] [(1 : Int32), (-1 : Int32)] [(-1 : Int32), (-1 : Int32)] [(2 : Int32), (1 : Int32)] [va, vb] [vp, vp] [(((0 : Int64) + vp) + (0 : Int64)), (((0 : Int64) + vp) + (0 : Int64))]) (hc : vb < va) :
    MetFree l own_y11 (head1 (Jvm.Cond.code own_y11 prog_66_method_8_code 2 none :: ws) ({ frames := 1, cells := 0, slots := 0, locals := 18 } : Room)) (fun aR U => aR = #[(.ref a), (.int (0 : Int32))] ∧ Z.Warmed39 U.vm ∧ U.heap = h0) (fun _ _ _ _ _ => True) (fun _ U o U' => ∃ v L, o = .returned v ∧ Q82 Z a a1_ a2_ a3_ a4_ a5_ a6_ a7_ a8_ a9_ a10_ a11_ va vb vp h0 n0 v U'.heap L ∧ FrameEnd U o U' L ({ frames := 1, cells := 0, slots := 0, locals := 18 } : Room).cells ({ frames := 1, cells := 0, slots := 0, locals := 18 } : Room).slots) := by
  refine MetFree.of_bodySF pf_11 hisR ?_
  intro p e s m args below meth c s₁ Bd hml0 hP hK
  obtain ⟨rfl, hZ, hhE⟩ := hP
  have hx := Bd.exec
  have hby := Bd.bytes
  have hml : c.maxLocals = 2 := hml0
  have hown : s.vm.findClass "com/example/equitide/equitide/policy/backfilling/PlannedEnds" = some m.cls := findClass_of_methodNamed Bd.named
  have hnm := (name_of_methodNamed Bd.named Bd.method).1
  have X0 : Stand p l e ({ frames := 1, cells := 0, slots := 0, locals := 18 } : Room) s m #[(.ref a), (.int (0 : Int32))] below meth c s₁ [] 0 0 := Stand.of_body Bd
  have e0 : s₁.heap = h0 := by rw [← hhE, Bd.state]; rfl
  have N0 := Fr.nil n0
  show own_Go p e below (own_Post s (Q82 Z a a1_ a2_ a3_ a4_ a5_ a6_ a7_ a8_ a9_ a10_ a11_ va vb vp h0 n0) ({ frames := 1, cells := 0, slots := 0, locals := 18 } : Room).cells ({ frames := 1, cells := 0, slots := 0, locals := 18 } : Room).slots) (s₁.setTop (entryFrame m #[(.ref a), (.int (0 : Int32))] 2))
  rw [ef_rm82]
  generalize hG : own_Post s (Q82 Z a a1_ a2_ a3_ a4_ a5_ a6_ a7_ a8_ a9_ a10_ a11_ va vb vp h0 n0) ({ frames := 1, cells := 0, slots := 0, locals := 18 } : Room).cells ({ frames := 1, cells := 0, slots := 0, locals := 18 } : Room).slots = G
  obtain ⟨o1, o2, o3, o4, o5, o6, o7, o8, o9, o10, o11⟩ := id hord
  obtain ⟨E0, F0_0, F1_0, F2_0, F3_0, F4_0, F5_0, F6_0, F7_0, F8_0, F9_0, F10_0, F11_0, F12_0, F13_0, V0_0, V1_0, V2_0, V3_0, V4_0, V5_0, V6_0, V7_0, V8_0, V9_0, V10_0⟩ := B
  refine own_aloadN X0 hx (hb hby d11_0) rfl rfl 1 rfl ?_
  refine own_getF X0 hx hZ hown (own_w hw 44 rfl) Via.refl e0 F13_0 (hb hby d11_1) 4 rfl (fun T2592 X2592 e2592 => ?_)
  refine own_iloadN X2592 hx (hb hby d11_4) rfl 5 rfl ?_
  refine own_aloadN X2592 hx (hb hby d11_5) rfl rfl 6 rfl ?_
  refine own_aloadN X2592 hx (hb hby d11_6) rfl rfl 7 rfl ?_
  refine own_iloadN X2592 hx (hb hby d11_7) rfl 8 rfl ?_
  refine own_callU X2592 hx hZ hown (own_w hw 87 rfl) (own_w hw 88 rfl) (own_w hw 89 rfl) (own_w hw 91 rfl) (own_w hw 90 rfl) (own_w hw 9 rfl) (own_w hw 92 rfl) (by decide) e2592 E0 (rm83 l Z a0 hw [] a a1_ a2_ a3_ a4_ a5_ a6_ a7_ a8_ a9_ a10_ a11_ va vb vp h0 n0 Z0 ga hord ⟨E0, F0_0, F1_0, F2_0, F3_0, F4_0, F5_0, F6_0, F7_0, F8_0, F9_0, F10_0, F11_0, F12_0, F13_0, V0_0, V1_0, V2_0, V3_0, V4_0, V5_0, V6_0, V7_0, V8_0, V9_0, V10_0⟩ hc) (by rw [hml]; rfl) pd_2 (argsL := [(.int (0 : Int32))]) rfl (rest := [(.ref a), (.int (0 : Int32)), (.ref a11_)]) rfl (hb hby d11_8) 3 (Nat.le_of_eq rfl) (by decide) (by decide) (by decide) (by decide) 11 rfl (fun T2594 L2594 v2594 X2594 hQ2594 => ?_)
  obtain ⟨rfl, N2594, e2594⟩ := hQ2594
  have N2595 := Fr.app N0 N2594
  show own_Go p e below G (T2594.setTop (mkF m 11 #[.val (.ref a), .val (.int (0 : Int32))] [(.int (1 : Int32)), (.ref a), (.int (0 : Int32)), (.ref a11_)]))
  refine own_callP X2594 hx hZ hown (own_w hw 93 rfl) (own_w hw 94 rfl) (own_w hw 95 rfl) (own_niI hZ (own_w hw 1 rfl)) (own_w hw 2 rfl) (own_w hw 96 rfl) (by decide) e2594 E0 (rm84 l Z a0 hw [] a a1_ a2_ a3_ a4_ a5_ a6_ a7_ a8_ a9_ a10_ a11_ va vb vp h0 n0 Z0 ga hord ⟨E0, F0_0, F1_0, F2_0, F3_0, F4_0, F5_0, F6_0, F7_0, F8_0, F9_0, F10_0, F11_0, F12_0, F13_0, V0_0, V1_0, V2_0, V3_0, V4_0, V5_0, V6_0, V7_0, V8_0, V9_0, V10_0⟩ hc) (by rw [hml]; rfl) pd_4 (argsL := [(.int (1 : Int32))]) rfl (rest := [(.int (0 : Int32)), (.ref a11_)]) rfl (hb hby d11_11) 2 (Nat.le_of_eq rfl) (by decide) (by decide) (by decide) (by decide) 14 rfl (fun T2597 L2597 v2597 X2597 hQ2597 => ?_)
  obtain ⟨rfl, N2597, e2597⟩ := hQ2597
  have N2598 := Fr.app N2595 N2597
  show own_Go p e below G (T2597.setTop (mkF m 14 #[.val (.ref a), .val (.int (0 : Int32))] [(.long (((0 : Int64) + vp) + (0 : Int64))), (.int (0 : Int32)), (.ref a11_)]))
  refine own_aloadN X2597 hx (hb hby d11_14) rfl rfl 15 rfl ?_
  refine own_getF X2597 hx hZ hown (own_w hw 42 rfl) Via.refl e2597 F12_0 (hb hby d11_15) 18 rfl (fun T2599 X2599 e2599 => ?_)
  refine own_iloadN X2599 hx (hb hby d11_18) rfl 19 rfl ?_
  refine own_laload X2599 hx hZ e2599 V9_0 0 rfl vp rfl (hb hby d11_19) 20 rfl ?_
  refine own_ladd X2599 hx (hb hby d11_20) 21 rfl ?_
  refine own_aloadN X2599 hx (hb hby d11_21) rfl rfl 22 rfl ?_
  refine own_aloadN X2599 hx (hb hby d11_22) rfl rfl 23 rfl ?_
  refine own_iloadN X2599 hx (hb hby d11_23) rfl 24 rfl ?_
  refine own_callU X2599 hx hZ hown (own_w hw 97 rfl) (own_w hw 98 rfl) (own_w hw 99 rfl) (own_w hw 101 rfl) (own_w hw 100 rfl) (own_w hw 9 rfl) (own_w hw 102 rfl) (by decide) e2599 E0 (rm85 l Z a0 hw [] a a1_ a2_ a3_ a4_ a5_ a6_ a7_ a8_ a9_ a10_ a11_ va vb vp h0 n0 Z0 ga hord ⟨E0, F0_0, F1_0, F2_0, F3_0, F4_0, F5_0, F6_0, F7_0, F8_0, F9_0, F10_0, F11_0, F12_0, F13_0, V0_0, V1_0, V2_0, V3_0, V4_0, V5_0, V6_0, V7_0, V8_0, V9_0, V10_0⟩ hc) (by rw [hml]; rfl) pd_2 (argsL := [(.int (0 : Int32))]) rfl (rest := [(.ref a), (.long ((((0 : Int64) + vp) + (0 : Int64)) + vp)), (.int (0 : Int32)), (.ref a11_)]) rfl (hb hby d11_24) 5 (Nat.le_of_eq rfl) (by decide) (by decide) (by decide) (by decide) 27 rfl (fun T2601 L2601 v2601 X2601 hQ2601 => ?_)
  obtain ⟨rfl, N2601, e2601⟩ := hQ2601
  have N2602 := Fr.app N2598 N2601
  show own_Go p e below G (T2601.setTop (mkF m 27 #[.val (.ref a), .val (.int (0 : Int32))] [(.int (-1 : Int32)), (.ref a), (.long ((((0 : Int64) + vp) + (0 : Int64)) + vp)), (.int (0 : Int32)), (.ref a11_)]))
  refine own_callP X2601 hx hZ hown (own_w hw 93 rfl) (own_w hw 94 rfl) (own_w hw 95 rfl) (own_niI hZ (own_w hw 1 rfl)) (own_w hw 2 rfl) (own_w hw 96 rfl) (by decide) e2601 E0 (rm86 l Z a0 hw [] a a1_ a2_ a3_ a4_ a5_ a6_ a7_ a8_ a9_ a10_ a11_ va vb vp h0 n0 Z0 ga hord ⟨E0, F0_0, F1_0, F2_0, F3_0, F4_0, F5_0, F6_0, F7_0, F8_0, F9_0, F10_0, F11_0, F12_0, F13_0, V0_0, V1_0, V2_0, V3_0, V4_0, V5_0, V6_0, V7_0, V8_0, V9_0, V10_0⟩ hc) (by rw [hml]; rfl) pd_4 (argsL := [(.int (-1 : Int32))]) rfl (rest := [(.long ((((0 : Int64) + vp) + (0 : Int64)) + vp)), (.int (0 : Int32)), (.ref a11_)]) rfl (hb hby d11_27) 4 (Nat.le_of_eq rfl) (by decide) (by decide) (by decide) (by decide) 30 rfl (fun T2603 L2603 v2603 X2603 hQ2603 => ?_)
  obtain ⟨rfl, N2603, e2603⟩ := hQ2603
  have N2604 := Fr.app N2602 N2603
  show own_Go p e below G (T2603.setTop (mkF m 30 #[.val (.ref a), .val (.int (0 : Int32))] [(.long (0 : Int64)), (.long ((((0 : Int64) + vp) + (0 : Int64)) + vp)), (.int (0 : Int32)), (.ref a11_)]))
  refine own_ladd X2603 hx (hb hby d11_30) 31 rfl ?_
  refine own_lastore X2603 hx hZ e2603 V10_0 0 rfl (by simp) (hb hby d11_31) 32 rfl (fun T2605 h2605 X2605 e2605 W2605 V2605 => ?_)
  rw [show [(((0 : Int64) + vp) + (0 : Int64)), (((0 : Int64) + vp) + (0 : Int64))].set 0 (((((0 : Int64) + vp) + (0 : Int64)) + vp) + (0 : Int64)) = [(((((0 : Int64) + vp) + (0 : Int64)) + vp) + (0 : Int64)), (((0 : Int64) + vp) + (0 : Int64))] from rfl] at V2605
  have N2606 := Fr.snoc X2605 N2604 (by omega)
  have Z2607 : n0 ≤ h2605.size := by rw [W2605.size]; exact Z0
  have E2608 := E0.wr W2605
  have F2609 := F0_0.other W2605 (Or.inl (Nat.ne_of_lt (by omega)))
  have F2610 := F1_0.other W2605 (Or.inl (Nat.ne_of_lt (by omega)))
  have F2611 := F2_0.other W2605 (Or.inl (Nat.ne_of_lt (by omega)))
  have F2612 := F3_0.other W2605 (Or.inl (Nat.ne_of_lt (by omega)))
  have F2613 := F4_0.other W2605 (Or.inl (Nat.ne_of_lt (by omega)))
  have F2614 := F5_0.other W2605 (Or.inl (Nat.ne_of_lt (by omega)))
  have F2615 := F6_0.other W2605 (Or.inl (Nat.ne_of_lt (by omega)))
  have F2616 := F7_0.other W2605 (Or.inl (Nat.ne_of_lt (by omega)))
  have F2617 := F8_0.other W2605 (Or.inl (Nat.ne_of_lt (by omega)))
  have F2618 := F9_0.other W2605 (Or.inl (Nat.ne_of_lt (by omega)))
  have F2619 := F10_0.other W2605 (Or.inl (Nat.ne_of_lt (by omega)))
  have F2620 := F11_0.other W2605 (Or.inl (Nat.ne_of_lt (by omega)))
  have F2621 := F12_0.other W2605 (Or.inl (Nat.ne_of_lt (by omega)))
  have F2622 := F13_0.other W2605 (Or.inl (Nat.ne_of_lt (by omega)))
  have V2623 := V0_0.other W2605 (Nat.ne_of_lt (by omega))
  have V2624 := V1_0.other W2605 (Nat.ne_of_lt (by omega))
  have V2625 := V2_0.other W2605 (Nat.ne_of_lt (by omega))
  have V2626 := V3_0.other W2605 (Nat.ne_of_lt (by omega))
  have V2627 := V4_0.other W2605 (Nat.ne_of_lt (by omega))
  have V2628 := V5_0.other W2605 (Nat.ne_of_lt (by omega))
  have V2629 := V6_0.other W2605 (Nat.ne_of_lt (by omega))
  have V2630 := V7_0.other W2605 (Nat.ne_of_lt (by omega))
  have V2631 := V8_0.other W2605 (Nat.ne_of_lt (by omega))
  have V2632 := V9_0.other W2605 (Nat.ne_of_lt (by omega))
  refine own_return X2605 hx Bd.notSynchronized hG Bd.returns (hb hby d11_32) (by decide) (by decide) ?_
  rw [e2605]
  exact ⟨rfl, N2606, Z2607, ⟨E2608, F2609, F2610, F2611, F2612, F2613, F2614, F2615, F2616, F2617, F2618, F2619, F2620, F2621, F2622, V2623, V2624, V2625, V2626, V2627, V2628, V2629, V2630, V2631, V2632, V2605⟩⟩
def Q81 (Z : State) (a a1_ a2_ a3_ a4_ a5_ a6_ a7_ a8_ a9_ a10_ a11_ : Addr) (va vb vp : Int64) (h0 : Heap) (n0 : Nat) (v : Option Value) (h : Heap) (L : List Loc) : Prop := v = none ∧ Fr n0 L ∧ n0 ≤ h.size ∧ own_PE Z h a a1_ a2_ a3_ a4_ a5_ a6_ a7_ a8_ a9_ a10_ a11_ (0 : Int32) (0 : Int32) (2 : Int32) ((List.replicate 127 (0 : Int32)).set 0 (0 : Int32)) ((List.replicate 127 (0 : Int32)).set 0 (0 : Int32)) [(0 : Int32), (1 : Int32)] [(1 : Int32), (0 : Int32)] [(1 : Int32), (-1 : Int32)] [(-1 : Int32), (-1 : Int32)] [(2 : Int32), (1 : Int32)] [va, vb] [vp, vp] [(((((0 : Int64) + vp) + (0 : Int64)) + vp) + (0 : Int64)), (((0 : Int64) + vp) + (0 : Int64))]
theorem ef_rm81 (m : MethodId) (x0 : Addr) (x1 : Int32) : entryFrame m #[(.ref x0), (.int x1)] 2 = mkF m 0 #[.val (.ref x0), .val (.int x1)] [] := by first | (simp [entryFrame, mkF, argsToLocals, Value.category, maxLocals]; done) | rfl
set_option maxRecDepth 65536 in
set_option maxHeartbeats 40000000 in
theorem rm81 (l : Launch) (Z : State) (a0 : Array Value) (hw : ∀ d ∈ tables_1, d.before a0 Z = true) (ws : List Jvm.Cond) (a a1_ a2_ a3_ a4_ a5_ a6_ a7_ a8_ a9_ a10_ a11_ : Addr) (va vb vp : Int64) (h0 : Heap) (n0 : Nat) (Z0 : n0 ≤ h0.size) (ga : n0 ≤ a) (hord : own_Or a a1_ a2_ a3_ a4_ a5_ a6_ a7_ a8_ a9_ a10_ a11_) (B : own_PE Z h0 a a1_ a2_ a3_ a4_ a5_ a6_ a7_ a8_ a9_ a10_ a11_ (0 : Int32) (0 : Int32) (2 : Int32) ((List.replicate 127 (0 : Int32)).set 0 (0 : Int32)) ((List.replicate 127 (0 : Int32)).set 0 (0 : Int32)) [(0 : Int32), (1 : Int32)] [(1 : Int32), (0 : Int32)] [(1 : Int32), (-1 : Int32)] [(-1 : Int32), (-1 : Int32)] [(1 : Int32), (1 : Int32)] [va, vb] [vp, vp] [(((0 : Int64) + vp) + (0 : Int64)), (((0 : Int64) + vp) + (0 : Int64))]) (hc : vb < va) :
    MetFree l own_y8 (head1 (Jvm.Cond.code own_y8 prog_49_method_27_code 2 none :: ws) ({ frames := 2, cells := 0, slots := 0, locals := 31 } : Room)) (fun aR U => aR = #[(.ref a), (.int (0 : Int32))] ∧ Z.Warmed39 U.vm ∧ U.heap = h0) (fun _ _ _ _ _ => True) (fun _ U o U' => ∃ v L, o = .returned v ∧ Q81 Z a a1_ a2_ a3_ a4_ a5_ a6_ a7_ a8_ a9_ a10_ a11_ va vb vp h0 n0 v U'.heap L ∧ FrameEnd U o U' L ({ frames := 2, cells := 0, slots := 0, locals := 31 } : Room).cells ({ frames := 2, cells := 0, slots := 0, locals := 31 } : Room).slots) := by
  refine MetFree.of_bodySF pf_8 hisR ?_
  intro p e s m args below meth c s₁ Bd hml0 hP hK
  obtain ⟨rfl, hZ, hhE⟩ := hP
  have hx := Bd.exec
  have hby := Bd.bytes
  have hml : c.maxLocals = 2 := hml0
  have hown : s.vm.findClass "com/example/equitide/equitide/policy/backfilling/AvlTree" = some m.cls := findClass_of_methodNamed Bd.named
  have hnm := (name_of_methodNamed Bd.named Bd.method).1
  have X0 : Stand p l e ({ frames := 2, cells := 0, slots := 0, locals := 31 } : Room) s m #[(.ref a), (.int (0 : Int32))] below meth c s₁ [] 0 0 := Stand.of_body Bd
  have e0 : s₁.heap = h0 := by rw [← hhE, Bd.state]; rfl
  have N0 := Fr.nil n0
  show own_Go p e below (own_Post s (Q81 Z a a1_ a2_ a3_ a4_ a5_ a6_ a7_ a8_ a9_ a10_ a11_ va vb vp h0 n0) ({ frames := 2, cells := 0, slots := 0, locals := 31 } : Room).cells ({ frames := 2, cells := 0, slots := 0, locals := 31 } : Room).slots) (s₁.setTop (entryFrame m #[(.ref a), (.int (0 : Int32))] 2))
  rw [ef_rm81]
  generalize hG : own_Post s (Q81 Z a a1_ a2_ a3_ a4_ a5_ a6_ a7_ a8_ a9_ a10_ a11_ va vb vp h0 n0) ({ frames := 2, cells := 0, slots := 0, locals := 31 } : Room).cells ({ frames := 2, cells := 0, slots := 0, locals := 31 } : Room).slots = G
  obtain ⟨o1, o2, o3, o4, o5, o6, o7, o8, o9, o10, o11⟩ := id hord
  obtain ⟨E0, F0_0, F1_0, F2_0, F3_0, F4_0, F5_0, F6_0, F7_0, F8_0, F9_0, F10_0, F11_0, F12_0, F13_0, V0_0, V1_0, V2_0, V3_0, V4_0, V5_0, V6_0, V7_0, V8_0, V9_0, V10_0⟩ := B
  refine own_aloadN X0 hx (hb hby d8_0) rfl rfl 1 rfl ?_
  refine own_getF X0 hx hZ hown (own_w hw 37 rfl) Via.refl e0 F10_0 (hb hby d8_1) 4 rfl (fun T2555 X2555 e2555 => ?_)
  refine own_iloadN X2555 hx (hb hby d8_4) rfl 5 rfl ?_
  refine own_iconst X2555 hx (hb hby d8_5) (1 : Int32) rfl 6 rfl ?_
  refine own_aloadN X2555 hx (hb hby d8_6) rfl rfl 7 rfl ?_
  refine own_aloadN X2555 hx (hb hby d8_7) rfl rfl 8 rfl ?_
  refine own_getF X2555 hx hZ hown (own_w hw 27 rfl) Via.refl e2555 F7_0 (hb hby d8_8) 11 rfl (fun T2556 X2556 e2556 => ?_)
  refine own_iloadN X2556 hx (hb hby d8_11) rfl 12 rfl ?_
  refine own_iaload X2556 hx hZ e2556 V4_0 0 rfl (1 : Int32) rfl (hb hby d8_12) 13 rfl ?_
  refine own_callP X2556 hx hZ hown (own_w hw 74 rfl) (own_w hw 75 rfl) (own_w hw 76 rfl) (own_niS hZ (own_w hw 60 rfl) (own_w hw 59 rfl) rfl) (own_w hw 9 rfl) (own_w hw 77 rfl) (by decide) e2556 E0 (rm79 l Z a0 hw [] a a1_ a2_ a3_ a4_ a5_ a6_ a7_ a8_ a9_ a10_ a11_ va vb vp h0 n0 Z0 ga hord ⟨E0, F0_0, F1_0, F2_0, F3_0, F4_0, F5_0, F6_0, F7_0, F8_0, F9_0, F10_0, F11_0, F12_0, F13_0, V0_0, V1_0, V2_0, V3_0, V4_0, V5_0, V6_0, V7_0, V8_0, V9_0, V10_0⟩ hc) (by rw [hml]; rfl) pd_2 (argsL := [(.int (1 : Int32))]) rfl (rest := [(.int (1 : Int32)), (.int (0 : Int32)), (.ref a8_)]) rfl (hb hby d8_13) 3 (Nat.le_of_eq rfl) (by decide) (by decide) (by decide) (by decide) 16 rfl (fun T2557 L2557 v2557 X2557 hQ2557 => ?_)
  obtain ⟨rfl, N2557, e2557⟩ := hQ2557
  have N2558 := Fr.app N0 N2557
  show own_Go p e below G (T2557.setTop (mkF m 16 #[.val (.ref a), .val (.int (0 : Int32))] [(.int (1 : Int32)), (.int (1 : Int32)), (.int (0 : Int32)), (.ref a8_)]))
  refine own_aloadN X2557 hx (hb hby d8_16) rfl rfl 17 rfl ?_
  refine own_aloadN X2557 hx (hb hby d8_17) rfl rfl 18 rfl ?_
  refine own_getF X2557 hx hZ hown (own_w hw 29 rfl) Via.refl e2557 F8_0 (hb hby d8_18) 21 rfl (fun T2559 X2559 e2559 => ?_)
  refine own_iloadN X2559 hx (hb hby d8_21) rfl 22 rfl ?_
  refine own_iaload X2559 hx hZ e2559 V5_0 0 rfl (-1 : Int32) rfl (hb hby d8_22) 23 rfl ?_
  refine own_callP X2559 hx hZ hown (own_w hw 74 rfl) (own_w hw 75 rfl) (own_w hw 76 rfl) (own_niS hZ (own_w hw 60 rfl) (own_w hw 59 rfl) rfl) (own_w hw 9 rfl) (own_w hw 77 rfl) (by decide) e2559 E0 (rm80 l Z a0 hw [] a a1_ a2_ a3_ a4_ a5_ a6_ a7_ a8_ a9_ a10_ a11_ va vb vp h0 n0 Z0 ga hord ⟨E0, F0_0, F1_0, F2_0, F3_0, F4_0, F5_0, F6_0, F7_0, F8_0, F9_0, F10_0, F11_0, F12_0, F13_0, V0_0, V1_0, V2_0, V3_0, V4_0, V5_0, V6_0, V7_0, V8_0, V9_0, V10_0⟩ hc) (by rw [hml]; rfl) pd_2 (argsL := [(.int (-1 : Int32))]) rfl (rest := [(.int (1 : Int32)), (.int (1 : Int32)), (.int (0 : Int32)), (.ref a8_)]) rfl (hb hby d8_23) 4 (Nat.le_of_eq rfl) (by decide) (by decide) (by decide) (by decide) 26 rfl (fun T2560 L2560 v2560 X2560 hQ2560 => ?_)
  obtain ⟨rfl, N2560, e2560⟩ := hQ2560
  have N2561 := Fr.app N2558 N2560
  show own_Go p e below G (T2560.setTop (mkF m 26 #[.val (.ref a), .val (.int (0 : Int32))] [(.int (0 : Int32)), (.int (1 : Int32)), (.int (1 : Int32)), (.int (0 : Int32)), (.ref a8_)]))
  refine own_callS X2560 hx hZ hown (own_w hw 78 rfl) (own_w hw 79 rfl) (own_w hw 80 rfl) (own_w hw 81 rfl) (by decide) e2560 (rmMax l Z a0 hw [] (1 : Int32) (0 : Int32) h0 n0) (by rw [hml]; rfl) pd_3 (argsL := [(.int (1 : Int32)), (.int (0 : Int32))]) rfl (rest := [(.int (1 : Int32)), (.int (0 : Int32)), (.ref a8_)]) rfl (hb hby d8_26) 3 (Nat.le_of_eq rfl) (by decide) (by decide) (by decide) (by decide) 29 rfl (fun T2562 L2562 v2562 X2562 hQ2562 => ?_)
  obtain ⟨rfl, N2562, e2562⟩ := hQ2562
  have N2563 := Fr.app N2561 N2562
  show own_Go p e below G (T2562.setTop (mkF m 29 #[.val (.ref a), .val (.int (0 : Int32))] [(.int (own_max (1 : Int32) (0 : Int32))), (.int (1 : Int32)), (.int (0 : Int32)), (.ref a8_)]))
  rw [show own_max (1 : Int32) (0 : Int32) = (1 : Int32) from rfl]
  refine own_iadd X2562 hx (hb hby d8_29) 30 rfl ?_
  show own_Go p e below G (T2562.setTop (mkF m 30 #[.val (.ref a), .val (.int (0 : Int32))] [(.int (2 : Int32)), (.int (0 : Int32)), (.ref a8_)]))
  refine own_i2b X2562 hx (hb hby d8_30) 31 rfl ?_
  show own_Go p e below G (T2562.setTop (mkF m 31 #[.val (.ref a), .val (.int (0 : Int32))] [(.int (2 : Int32)), (.int (0 : Int32)), (.ref a8_)]))
  refine own_bastore X2562 hx hZ e2562 V7_0 0 rfl (by simp) (hb hby d8_31) 32 rfl (fun T2564 h2564 X2564 e2564 W2564 V2564 => ?_)
  rw [show [(1 : Int32), (1 : Int32)].set 0 ((2 : Int32).toInt8.toInt32) = [(2 : Int32), (1 : Int32)] from rfl] at V2564
  have N2565 := Fr.snoc X2564 N2563 (by omega)
  have Z2566 : n0 ≤ h2564.size := by rw [W2564.size]; exact Z0
  have E2567 := E0.wr W2564
  have F2568 := F0_0.other W2564 (Or.inl (Nat.ne_of_lt (by omega)))
  have F2569 := F1_0.other W2564 (Or.inl (Nat.ne_of_lt (by omega)))
  have F2570 := F2_0.other W2564 (Or.inl (Nat.ne_of_lt (by omega)))
  have F2571 := F3_0.other W2564 (Or.inl (Nat.ne_of_lt (by omega)))
  have F2572 := F4_0.other W2564 (Or.inl (Nat.ne_of_lt (by omega)))
  have F2573 := F5_0.other W2564 (Or.inl (Nat.ne_of_lt (by omega)))
  have F2574 := F6_0.other W2564 (Or.inl (Nat.ne_of_lt (by omega)))
  have F2575 := F7_0.other W2564 (Or.inl (Nat.ne_of_lt (by omega)))
  have F2576 := F8_0.other W2564 (Or.inl (Nat.ne_of_lt (by omega)))
  have F2577 := F9_0.other W2564 (Or.inl (Nat.ne_of_lt (by omega)))
  have F2578 := F10_0.other W2564 (Or.inl (Nat.ne_of_lt (by omega)))
  have F2579 := F11_0.other W2564 (Or.inl (Nat.ne_of_lt (by omega)))
  have F2580 := F12_0.other W2564 (Or.inl (Nat.ne_of_lt (by omega)))
  have F2581 := F13_0.other W2564 (Or.inl (Nat.ne_of_lt (by omega)))
  have V2582 := V0_0.other W2564 (Nat.ne_of_lt (by omega))
  have V2583 := V1_0.other W2564 (Nat.ne_of_lt (by omega))
  have V2584 := V2_0.other W2564 (Nat.ne_of_lt (by omega))
  have V2585 := V3_0.other W2564 (Nat.ne_of_lt (by omega))
  have V2586 := V4_0.other W2564 (Nat.ne_of_lt (by omega))
  have V2587 := V5_0.other W2564 (Nat.ne_of_lt (by omega))
  have V2588 := V6_0.other W2564 (Nat.ne_of_lt (by omega))
  have V2589 := V8_0.other W2564 (Ne.symm (Nat.ne_of_lt (by omega)))
  have V2590 := V9_0.other W2564 (Ne.symm (Nat.ne_of_lt (by omega)))
  have V2591 := V10_0.other W2564 (Ne.symm (Nat.ne_of_lt (by omega)))
  refine own_aloadN X2564 hx (hb hby d8_32) rfl rfl 33 rfl ?_
  refine own_iloadN X2564 hx (hb hby d8_33) rfl 34 rfl ?_
  refine own_callV X2564 hx hZ hown (own_w hw 82 rfl) (own_w hw 83 rfl) (own_w hw 84 rfl) (own_nfS (own_niS hZ (own_w hw 60 rfl) (own_w hw 59 rfl) rfl)) (own_w hw 85 rfl) (own_w hw 2 rfl) (own_w hw 86 rfl) (by decide) e2564 E2567 (rm82 l Z a0 hw [] a a1_ a2_ a3_ a4_ a5_ a6_ a7_ a8_ a9_ a10_ a11_ va vb vp h2564 n0 Z2566 ga hord ⟨E2567, F2568, F2569, F2570, F2571, F2572, F2573, F2574, F2575, F2576, F2577, F2578, F2579, F2580, F2581, V2582, V2583, V2584, V2585, V2586, V2587, V2588, V2564, V2589, V2590, V2591⟩ hc) (by rw [hml]; rfl) pd_5 (argsL := [(.int (0 : Int32))]) rfl (rest := []) rfl (hb hby d8_34) 0 (Nat.le_of_eq rfl) (by decide) (by decide) (by decide) (by decide) 37 rfl (fun T2633 L2633 v2633 X2633 hQ2633 => ?_)
  obtain ⟨rfl, N2633, Z2633, B2633⟩ := hQ2633
  have N2634 := Fr.app N2565 N2633
  obtain ⟨E2633, F0_2633, F1_2633, F2_2633, F3_2633, F4_2633, F5_2633, F6_2633, F7_2633, F8_2633, F9_2633, F10_2633, F11_2633, F12_2633, F13_2633, V0_2633, V1_2633, V2_2633, V3_2633, V4_2633, V5_2633, V6_2633, V7_2633, V8_2633, V9_2633, V10_2633⟩ := B2633
  show own_Go p e below G (T2633.setTop (mkF m 37 #[.val (.ref a), .val (.int (0 : Int32))] []))
  refine own_return X2633 hx Bd.notSynchronized hG Bd.returns (hb hby d8_37) (by decide) (by decide) ?_
  skip
  exact ⟨rfl, N2634, Z2633, ⟨E2633, F0_2633, F1_2633, F2_2633, F3_2633, F4_2633, F5_2633, F6_2633, F7_2633, F8_2633, F9_2633, F10_2633, F11_2633, F12_2633, F13_2633, V0_2633, V1_2633, V2_2633, V3_2633, V4_2633, V5_2633, V6_2633, V7_2633, V8_2633, V9_2633, V10_2633⟩⟩
def Q78 (Z : State) (a a1_ a2_ a3_ a4_ a5_ a6_ a7_ a8_ a9_ a10_ a11_ : Addr) (va vb vp : Int64) (h0 : Heap) (n0 : Nat) (v : Option Value) (h : Heap) (L : List Loc) : Prop := v = some (.int (0 : Int32)) ∧ Fr n0 L ∧ n0 ≤ h.size ∧ own_PE Z h a a1_ a2_ a3_ a4_ a5_ a6_ a7_ a8_ a9_ a10_ a11_ (0 : Int32) (0 : Int32) (2 : Int32) ((List.replicate 127 (0 : Int32)).set 0 (0 : Int32)) ((List.replicate 127 (0 : Int32)).set 0 (0 : Int32)) [(0 : Int32), (1 : Int32)] [(1 : Int32), (0 : Int32)] [(1 : Int32), (-1 : Int32)] [(-1 : Int32), (-1 : Int32)] [(2 : Int32), (1 : Int32)] [va, vb] [vp, vp] [(((((0 : Int64) + vp) + (0 : Int64)) + vp) + (0 : Int64)), (((0 : Int64) + vp) + (0 : Int64))]
theorem ef_rm78 (m : MethodId) (x0 : Addr) (x1 : Int32) : entryFrame m #[(.ref x0), (.int x1)] 5 = mkF m 0 #[.val (.ref x0), .val (.int x1), .unset, .unset, .unset] [] := by first | (simp [entryFrame, mkF, argsToLocals, Value.category, maxLocals]; done) | rfl
set_option maxRecDepth 65536 in
set_option maxHeartbeats 40000000 in
theorem rm78 (l : Launch) (Z : State) (a0 : Array Value) (hw : ∀ d ∈ tables_1, d.before a0 Z = true) (ws : List Jvm.Cond) (a a1_ a2_ a3_ a4_ a5_ a6_ a7_ a8_ a9_ a10_ a11_ : Addr) (va vb vp : Int64) (h0 : Heap) (n0 : Nat) (Z0 : n0 ≤ h0.size) (ga : n0 ≤ a) (hord : own_Or a a1_ a2_ a3_ a4_ a5_ a6_ a7_ a8_ a9_ a10_ a11_) (B : own_PE Z h0 a a1_ a2_ a3_ a4_ a5_ a6_ a7_ a8_ a9_ a10_ a11_ (0 : Int32) (0 : Int32) (2 : Int32) ((List.replicate 127 (0 : Int32)).set 0 (0 : Int32)) ((List.replicate 127 (0 : Int32)).set 0 (0 : Int32)) [(0 : Int32), (1 : Int32)] [(1 : Int32), (0 : Int32)] [(1 : Int32), (-1 : Int32)] [(-1 : Int32), (-1 : Int32)] [(1 : Int32), (1 : Int32)] [va, vb] [vp, vp] [(((0 : Int64) + vp) + (0 : Int64)), (((0 : Int64) + vp) + (0 : Int64))]) (hc : vb < va) :
    MetFree l own_y18 (head1 (Jvm.Cond.code own_y18 prog_49_method_25_code 5 (some .int) :: ws) ({ frames := 3, cells := 0, slots := 0, locals := 44 } : Room)) (fun aR U => aR = #[(.ref a), (.int (0 : Int32))] ∧ Z.Warmed39 U.vm ∧ U.heap = h0) (fun _ _ _ _ _ => True) (fun _ U o U' => ∃ v L, o = .returned v ∧ Q78 Z a a1_ a2_ a3_ a4_ a5_ a6_ a7_ a8_ a9_ a10_ a11_ va vb vp h0 n0 v U'.heap L ∧ FrameEnd U o U' L ({ frames := 3, cells := 0, slots := 0, locals := 44 } : Room).cells ({ frames := 3, cells := 0, slots := 0, locals := 44 } : Room).slots) := by
  refine MetFree.of_bodySF pf_18 hisR ?_
  intro p e s m args below meth c s₁ Bd hml0 hP hK
  obtain ⟨rfl, hZ, hhE⟩ := hP
  have hx := Bd.exec
  have hby := Bd.bytes
  have hml : c.maxLocals = 5 := hml0
  have hown : s.vm.findClass "com/example/equitide/equitide/policy/backfilling/AvlTree" = some m.cls := findClass_of_methodNamed Bd.named
  have hnm := (name_of_methodNamed Bd.named Bd.method).1
  have X0 : Stand p l e ({ frames := 3, cells := 0, slots := 0, locals := 44 } : Room) s m #[(.ref a), (.int (0 : Int32))] below meth c s₁ [] 0 0 := Stand.of_body Bd
  have e0 : s₁.heap = h0 := by rw [← hhE, Bd.state]; rfl
  have N0 := Fr.nil n0
  show own_Go p e below (own_Post s (Q78 Z a a1_ a2_ a3_ a4_ a5_ a6_ a7_ a8_ a9_ a10_ a11_ va vb vp h0 n0) ({ frames := 3, cells := 0, slots := 0, locals := 44 } : Room).cells ({ frames := 3, cells := 0, slots := 0, locals := 44 } : Room).slots) (s₁.setTop (entryFrame m #[(.ref a), (.int (0 : Int32))] 5))
  rw [ef_rm78]
  generalize hG : own_Post s (Q78 Z a a1_ a2_ a3_ a4_ a5_ a6_ a7_ a8_ a9_ a10_ a11_ va vb vp h0 n0) ({ frames := 3, cells := 0, slots := 0, locals := 44 } : Room).cells ({ frames := 3, cells := 0, slots := 0, locals := 44 } : Room).slots = G
  obtain ⟨o1, o2, o3, o4, o5, o6, o7, o8, o9, o10, o11⟩ := id hord
  obtain ⟨E0, F0_0, F1_0, F2_0, F3_0, F4_0, F5_0, F6_0, F7_0, F8_0, F9_0, F10_0, F11_0, F12_0, F13_0, V0_0, V1_0, V2_0, V3_0, V4_0, V5_0, V6_0, V7_0, V8_0, V9_0, V10_0⟩ := B
  refine own_aloadN X0 hx (hb hby d18_0) rfl rfl 1 rfl ?_
  refine own_aloadN X0 hx (hb hby d18_1) rfl rfl 2 rfl ?_
  refine own_getF X0 hx hZ hown (own_w hw 27 rfl) Via.refl e0 F7_0 (hb hby d18_2) 5 rfl (fun T2548 X2548 e2548 => ?_)
  refine own_iloadN X2548 hx (hb hby d18_5) rfl 6 rfl ?_
  refine own_iaload X2548 hx hZ e2548 V4_0 0 rfl (1 : Int32) rfl (hb hby d18_6) 7 rfl ?_
  refine own_callP X2548 hx hZ hown (own_w hw 74 rfl) (own_w hw 75 rfl) (own_w hw 76 rfl) (own_niS hZ (own_w hw 60 rfl) (own_w hw 59 rfl) rfl) (own_w hw 9 rfl) (own_w hw 77 rfl) (by decide) e2548 E0 (rm79 l Z a0 hw [] a a1_ a2_ a3_ a4_ a5_ a6_ a7_ a8_ a9_ a10_ a11_ va vb vp h0 n0 Z0 ga hord ⟨E0, F0_0, F1_0, F2_0, F3_0, F4_0, F5_0, F6_0, F7_0, F8_0, F9_0, F10_0, F11_0, F12_0, F13_0, V0_0, V1_0, V2_0, V3_0, V4_0, V5_0, V6_0, V7_0, V8_0, V9_0, V10_0⟩ hc) (by rw [hml]; rfl) pd_2 (argsL := [(.int (1 : Int32))]) rfl (rest := []) rfl (hb hby d18_7) 0 (Nat.le_of_eq rfl) (by decide) (by decide) (by decide) (by decide) 10 rfl (fun T2550 L2550 v2550 X2550 hQ2550 => ?_)
  obtain ⟨rfl, N2550, e2550⟩ := hQ2550
  have N2551 := Fr.app N0 N2550
  show own_Go p e below G (T2550.setTop (mkF m 10 #[.val (.ref a), .val (.int (0 : Int32)), .unset, .unset, .unset] [(.int (1 : Int32))]))
  refine own_aloadN X2550 hx (hb hby d18_10) rfl rfl 11 rfl ?_
  refine own_aloadN X2550 hx (hb hby d18_11) rfl rfl 12 rfl ?_
  refine own_getF X2550 hx hZ hown (own_w hw 29 rfl) Via.refl e2550 F8_0 (hb hby d18_12) 15 rfl (fun T2552 X2552 e2552 => ?_)
  refine own_iloadN X2552 hx (hb hby d18_15) rfl 16 rfl ?_
  refine own_iaload X2552 hx hZ e2552 V5_0 0 rfl (-1 : Int32) rfl (hb hby d18_16) 17 rfl ?_
  refine own_callP X2552 hx hZ hown (own_w hw 74 rfl) (own_w hw 75 rfl) (own_w hw 76 rfl) (own_niS hZ (own_w hw 60 rfl) (own_w hw 59 rfl) rfl) (own_w hw 9 rfl) (own_w hw 77 rfl) (by decide) e2552 E0 (rm80 l Z a0 hw [] a a1_ a2_ a3_ a4_ a5_ a6_ a7_ a8_ a9_ a10_ a11_ va vb vp h0 n0 Z0 ga hord ⟨E0, F0_0, F1_0, F2_0, F3_0, F4_0, F5_0, F6_0, F7_0, F8_0, F9_0, F10_0, F11_0, F12_0, F13_0, V0_0, V1_0, V2_0, V3_0, V4_0, V5_0, V6_0, V7_0, V8_0, V9_0, V10_0⟩ hc) (by rw [hml]; rfl) pd_2 (argsL := [(.int (-1 : Int32))]) rfl (rest := [(.int (1 : Int32))]) rfl (hb hby d18_17) 1 (Nat.le_of_eq rfl) (by decide) (by decide) (by decide) (by decide) 20 rfl (fun T2553 L2553 v2553 X2553 hQ2553 => ?_)
  obtain ⟨rfl, N2553, e2553⟩ := hQ2553
  have N2554 := Fr.app N2551 N2553
  show own_Go p e below G (T2553.setTop (mkF m 20 #[.val (.ref a), .val (.int (0 : Int32)), .unset, .unset, .unset] [(.int (0 : Int32)), (.int (1 : Int32))]))
  refine own_isub X2553 hx (hb hby d18_20) 21 rfl ?_
  show own_Go p e below G (T2553.setTop (mkF m 21 #[.val (.ref a), .val (.int (0 : Int32)), .unset, .unset, .unset] [(.int (1 : Int32))]))
  refine own_istoreN X2553 hx (hb hby d18_21) #[.val (.ref a), .val (.int (0 : Int32)), .val (.int (1 : Int32)), .unset, .unset] rfl 22 rfl ?_
  refine own_iloadN X2553 hx (hb hby d18_22) rfl 23 rfl ?_
  refine own_iconst X2553 hx (hb hby d18_23) (1 : Int32) rfl 24 rfl ?_
  refine own_icmpN X2553 hx (hb hby d18_24) (flt (by decide)).2.2.1 27 rfl ?_
  refine own_iloadN X2553 hx (hb hby d18_27) rfl 28 rfl ?_
  refine own_iconst X2553 hx (hb hby d18_28) (-1 : Int32) rfl 29 rfl ?_
  refine own_icmpY X2553 hx (hb hby d18_29) (flt (by decide)).2.1 107 ⟨by decide, by decide⟩ ?_
  refine own_aloadN X2553 hx (hb hby d18_107) rfl rfl 108 rfl ?_
  refine own_iloadN X2553 hx (hb hby d18_108) rfl 109 rfl ?_
  refine own_callP X2553 hx hZ hown (own_w hw 70 rfl) (own_w hw 71 rfl) (own_w hw 72 rfl) (own_niS hZ (own_w hw 60 rfl) (own_w hw 59 rfl) rfl) (own_w hw 9 rfl) (own_w hw 73 rfl) (by decide) e2553 E0 (rm81 l Z a0 hw [] a a1_ a2_ a3_ a4_ a5_ a6_ a7_ a8_ a9_ a10_ a11_ va vb vp h0 n0 Z0 ga hord ⟨E0, F0_0, F1_0, F2_0, F3_0, F4_0, F5_0, F6_0, F7_0, F8_0, F9_0, F10_0, F11_0, F12_0, F13_0, V0_0, V1_0, V2_0, V3_0, V4_0, V5_0, V6_0, V7_0, V8_0, V9_0, V10_0⟩ hc) (by rw [hml]; rfl) pd_5 (argsL := [(.int (0 : Int32))]) rfl (rest := []) rfl (hb hby d18_109) 0 (Nat.le_of_eq rfl) (by decide) (by decide) (by decide) (by decide) 112 rfl (fun T2635 L2635 v2635 X2635 hQ2635 => ?_)
  obtain ⟨rfl, N2635, Z2635, B2635⟩ := hQ2635
  have N2636 := Fr.app N2554 N2635
  obtain ⟨E2635, F0_2635, F1_2635, F2_2635, F3_2635, F4_2635, F5_2635, F6_2635, F7_2635, F8_2635, F9_2635, F10_2635, F11_2635, F12_2635, F13_2635, V0_2635, V1_2635, V2_2635, V3_2635, V4_2635, V5_2635, V6_2635, V7_2635, V8_2635, V9_2635, V10_2635⟩ := B2635
  show own_Go p e below G (T2635.setTop (mkF m 112 #[.val (.ref a), .val (.int (0 : Int32)), .val (.int (1 : Int32)), .unset, .unset] []))
  refine own_iloadN X2635 hx (hb hby d18_112) rfl 113 rfl ?_
  refine own_ireturn X2635 hx Bd.notSynchronized hG Bd.returns (hb hby d18_113) (by decide) (by decide) ?_
  skip
  exact ⟨rfl, N2636, Z2635, ⟨E2635, F0_2635, F1_2635, F2_2635, F3_2635, F4_2635, F5_2635, F6_2635, F7_2635, F8_2635, F9_2635, F10_2635, F11_2635, F12_2635, F13_2635, V0_2635, V1_2635, V2_2635, V3_2635, V4_2635, V5_2635, V6_2635, V7_2635, V8_2635, V9_2635, V10_2635⟩⟩
def Q77 (Z : State) (a a1_ a2_ a3_ a4_ a5_ a6_ a7_ a8_ a9_ a10_ a11_ : Addr) (va vb vp : Int64) (h0 : Heap) (n0 : Nat) (v : Option Value) (h : Heap) (L : List Loc) : Prop := v = some (.int (0 : Int32)) ∧ Fr n0 L ∧ n0 ≤ h.size ∧ own_PE Z h a a1_ a2_ a3_ a4_ a5_ a6_ a7_ a8_ a9_ a10_ a11_ (0 : Int32) (0 : Int32) (2 : Int32) ((List.replicate 127 (0 : Int32)).set 0 (0 : Int32)) ((List.replicate 127 (0 : Int32)).set 0 (0 : Int32)) [(0 : Int32), (1 : Int32)] [(1 : Int32), (0 : Int32)] [(1 : Int32), (-1 : Int32)] [(-1 : Int32), (-1 : Int32)] [(2 : Int32), (1 : Int32)] [va, vb] [vp, vp] [(((((0 : Int64) + vp) + (0 : Int64)) + vp) + (0 : Int64)), (((0 : Int64) + vp) + (0 : Int64))]
theorem ef_rm77 (m : MethodId) (x0 : Addr) (x1 : Int32) (x2 : Int32) (x3 : Int32) : entryFrame m #[(.ref x0), (.int x1), (.int x2), (.int x3)] 6 = mkF m 0 #[.val (.ref x0), .val (.int x1), .val (.int x2), .val (.int x3), .unset, .unset] [] := by first | (simp [entryFrame, mkF, argsToLocals, Value.category, maxLocals]; done) | rfl
set_option maxRecDepth 65536 in
set_option maxHeartbeats 40000000 in
theorem rm77 (l : Launch) (Z : State) (a0 : Array Value) (hw : ∀ d ∈ tables_1, d.before a0 Z = true) (ws : List Jvm.Cond) (a a1_ a2_ a3_ a4_ a5_ a6_ a7_ a8_ a9_ a10_ a11_ : Addr) (va vb vp : Int64) (h0 : Heap) (n0 : Nat) (Z0 : n0 ≤ h0.size) (ga : n0 ≤ a) (hord : own_Or a a1_ a2_ a3_ a4_ a5_ a6_ a7_ a8_ a9_ a10_ a11_) (B : own_PE Z h0 a a1_ a2_ a3_ a4_ a5_ a6_ a7_ a8_ a9_ a10_ a11_ (0 : Int32) (0 : Int32) (2 : Int32) ((List.replicate 127 (0 : Int32)).set 0 (0 : Int32)) ((List.replicate 127 (0 : Int32)).set 0 (0 : Int32)) [(0 : Int32), (1 : Int32)] [(1 : Int32), (0 : Int32)] [(-1 : Int32), (-1 : Int32)] [(-1 : Int32), (-1 : Int32)] [(1 : Int32), (1 : Int32)] [va, vb] [vp, vp] [(((0 : Int64) + vp) + (0 : Int64)), (((0 : Int64) + vp) + (0 : Int64))]) (hc : vb < va) :
    MetFree l own_y16 (head1 (Jvm.Cond.code own_y16 prog_49_method_23_code 6 (some .int) :: ws) ({ frames := 4, cells := 0, slots := 0, locals := 60 } : Room)) (fun aR U => aR = #[(.ref a), (.int (0 : Int32)), (.int (1 : Int32)), (.int (1 : Int32))] ∧ Z.Warmed39 U.vm ∧ U.heap = h0) (fun _ _ _ _ _ => True) (fun _ U o U' => ∃ v L, o = .returned v ∧ Q77 Z a a1_ a2_ a3_ a4_ a5_ a6_ a7_ a8_ a9_ a10_ a11_ va vb vp h0 n0 v U'.heap L ∧ FrameEnd U o U' L ({ frames := 4, cells := 0, slots := 0, locals := 60 } : Room).cells ({ frames := 4, cells := 0, slots := 0, locals := 60 } : Room).slots) := by
  refine MetFree.of_bodySF pf_16 hisR ?_
  intro p e s m args below meth c s₁ Bd hml0 hP hK
  obtain ⟨rfl, hZ, hhE⟩ := hP
  have hx := Bd.exec
  have hby := Bd.bytes
  have hml : c.maxLocals = 6 := hml0
  have hown : s.vm.findClass "com/example/equitide/equitide/policy/backfilling/AvlTree" = some m.cls := findClass_of_methodNamed Bd.named
  have hnm := (name_of_methodNamed Bd.named Bd.method).1
  have X0 : Stand p l e ({ frames := 4, cells := 0, slots := 0, locals := 60 } : Room) s m #[(.ref a), (.int (0 : Int32)), (.int (1 : Int32)), (.int (1 : Int32))] below meth c s₁ [] 0 0 := Stand.of_body Bd
  have e0 : s₁.heap = h0 := by rw [← hhE, Bd.state]; rfl
  have N0 := Fr.nil n0
  show own_Go p e below (own_Post s (Q77 Z a a1_ a2_ a3_ a4_ a5_ a6_ a7_ a8_ a9_ a10_ a11_ va vb vp h0 n0) ({ frames := 4, cells := 0, slots := 0, locals := 60 } : Room).cells ({ frames := 4, cells := 0, slots := 0, locals := 60 } : Room).slots) (s₁.setTop (entryFrame m #[(.ref a), (.int (0 : Int32)), (.int (1 : Int32)), (.int (1 : Int32))] 6))
  rw [ef_rm77]
  generalize hG : own_Post s (Q77 Z a a1_ a2_ a3_ a4_ a5_ a6_ a7_ a8_ a9_ a10_ a11_ va vb vp h0 n0) ({ frames := 4, cells := 0, slots := 0, locals := 60 } : Room).cells ({ frames := 4, cells := 0, slots := 0, locals := 60 } : Room).slots = G
  obtain ⟨o1, o2, o3, o4, o5, o6, o7, o8, o9, o10, o11⟩ := id hord
  obtain ⟨E0, F0_0, F1_0, F2_0, F3_0, F4_0, F5_0, F6_0, F7_0, F8_0, F9_0, F10_0, F11_0, F12_0, F13_0, V0_0, V1_0, V2_0, V3_0, V4_0, V5_0, V6_0, V7_0, V8_0, V9_0, V10_0⟩ := B
  refine own_iloadN X0 hx (hb hby d16_0) rfl 1 rfl ?_
  refine own_istore X0 hx (hb hby d16_1) #[.val (.ref a), .val (.int (0 : Int32)), .val (.int (1 : Int32)), .val (.int (1 : Int32)), .val (.int (1 : Int32)), .unset] rfl 3 rfl ?_
  refine own_iloadN X0 hx (hb hby d16_3) rfl 4 rfl ?_
  refine own_istore X0 hx (hb hby d16_4) #[.val (.ref a), .val (.int (0 : Int32)), .val (.int (1 : Int32)), .val (.int (1 : Int32)), .val (.int (1 : Int32)), .val (.int (1 : Int32))] rfl 6 rfl ?_
  refine own_iload X0 hx (hb hby d16_6) rfl 8 rfl ?_
  refine own_iloadN X0 hx (hb hby d16_8) rfl 9 rfl ?_
  refine own_icmpN X0 hx (hb hby d16_9) (tlt (by decide)).2.2.2 12 rfl ?_
  refine own_aloadN X0 hx (hb hby d16_12) rfl rfl 13 rfl ?_
  refine own_getF X0 hx hZ hown (own_w hw 34 rfl) Via.refl e0 F9_0 (hb hby d16_13) 16 rfl (fun T2516 X2516 e2516 => ?_)
  refine own_aloadN X2516 hx (hb hby d16_16) rfl rfl 17 rfl ?_
  refine own_getF X2516 hx hZ hown (own_w hw 19 rfl) Via.refl e2516 F4_0 (hb hby d16_17) 20 rfl (fun T2517 X2517 e2517 => ?_)
  refine own_iload X2517 hx (hb hby d16_20) rfl 22 rfl ?_
  refine own_iconst X2517 hx (hb hby d16_22) (1 : Int32) rfl 23 rfl ?_
  refine own_isub X2517 hx (hb hby d16_23) 24 rfl ?_
  show own_Go p e below G (T2517.setTop (mkF m 24 #[.val (.ref a), .val (.int (0 : Int32)), .val (.int (1 : Int32)), .val (.int (1 : Int32)), .val (.int (1 : Int32)), .val (.int (1 : Int32))] [(.int (0 : Int32)), (.ref a2_), (.ref a7_)]))
  refine own_iaload X2517 hx hZ e2517 V1_0 0 rfl (0 : Int32) rfl (hb hby d16_24) 25 rfl ?_
  obtain ⟨clk, Ak, Sk, -⟩ := id V6_0
  refine own_aaload X2517 hx hZ e2517 Ak rfl (v := .ref a5_) (by rw [Sk]; show ¬ ((0 : Int32) < 0 ∨ 2 ≤ Int32.toNatClampNeg 0); decide) (by rw [Sk]; rfl) (hb hby d16_25) 26 rfl ?_
  refine own_aloadN X2517 hx (hb hby d16_26) rfl rfl 27 rfl ?_
  refine own_getF X2517 hx hZ hown (own_w hw 17 rfl) Via.refl e2517 F3_0 (hb hby d16_27) 30 rfl (fun T2518 X2518 e2518 => ?_)
  refine own_iload X2518 hx (hb hby d16_30) rfl 32 rfl ?_
  refine own_iconst X2518 hx (hb hby d16_32) (1 : Int32) rfl 33 rfl ?_
  refine own_isub X2518 hx (hb hby d16_33) 34 rfl ?_
  show own_Go p e below G (T2518.setTop (mkF m 34 #[.val (.ref a), .val (.int (0 : Int32)), .val (.int (1 : Int32)), .val (.int (1 : Int32)), .val (.int (1 : Int32)), .val (.int (1 : Int32))] [(.int (0 : Int32)), (.ref a1_), (.ref a5_)]))
  refine own_iaload X2518 hx hZ e2518 V0_0 0 rfl (0 : Int32) rfl (hb hby d16_34) 35 rfl ?_
  refine own_iload X2518 hx (hb hby d16_35) rfl 37 rfl ?_
  refine own_iastore X2518 hx hZ e2518 V4_0 0 rfl (by simp) (hb hby d16_37) 38 rfl (fun T2519 h2519 X2519 e2519 W2519 V2519 => ?_)
  rw [show [(-1 : Int32), (-1 : Int32)].set 0 (1 : Int32) = [(1 : Int32), (-1 : Int32)] from rfl] at V2519
  have N2520 := Fr.snoc X2519 N0 (by omega)
  have Z2521 : n0 ≤ h2519.size := by rw [W2519.size]; exact Z0
  have E2522 := E0.wr W2519
  have F2523 := F0_0.other W2519 (Or.inl (Nat.ne_of_lt (by omega)))
  have F2524 := F1_0.other W2519 (Or.inl (Nat.ne_of_lt (by omega)))
  have F2525 := F2_0.other W2519 (Or.inl (Nat.ne_of_lt (by omega)))
  have F2526 := F3_0.other W2519 (Or.inl (Nat.ne_of_lt (by omega)))
  have F2527 := F4_0.other W2519 (Or.inl (Nat.ne_of_lt (by omega)))
  have F2528 := F5_0.other W2519 (Or.inl (Nat.ne_of_lt (by omega)))
  have F2529 := F6_0.other W2519 (Or.inl (Nat.ne_of_lt (by omega)))
  have F2530 := F7_0.other W2519 (Or.inl (Nat.ne_of_lt (by omega)))
  have F2531 := F8_0.other W2519 (Or.inl (Nat.ne_of_lt (by omega)))
  have F2532 := F9_0.other W2519 (Or.inl (Nat.ne_of_lt (by omega)))
  have F2533 := F10_0.other W2519 (Or.inl (Nat.ne_of_lt (by omega)))
  have F2534 := F11_0.other W2519 (Or.inl (Nat.ne_of_lt (by omega)))
  have F2535 := F12_0.other W2519 (Or.inl (Nat.ne_of_lt (by omega)))
  have F2536 := F13_0.other W2519 (Or.inl (Nat.ne_of_lt (by omega)))
  have V2537 := V0_0.other W2519 (Nat.ne_of_lt (by omega))
  have V2538 := V1_0.other W2519 (Nat.ne_of_lt (by omega))
  have V2539 := V2_0.other W2519 (Nat.ne_of_lt (by omega))
  have V2540 := V3_0.other W2519 (Nat.ne_of_lt (by omega))
  have V2541 := V5_0.other W2519 (Ne.symm (Nat.ne_of_lt (by omega)))
  have V2542 := V6_0.other W2519 (Ne.symm (Nat.ne_of_lt (by omega)))
  have V2543 := V7_0.other W2519 (Ne.symm (Nat.ne_of_lt (by omega)))
  have V2544 := V8_0.other W2519 (Ne.symm (Nat.ne_of_lt (by omega)))
  have V2545 := V9_0.other W2519 (Ne.symm (Nat.ne_of_lt (by omega)))
  have V2546 := V10_0.other W2519 (Ne.symm (Nat.ne_of_lt (by omega)))
  refine own_aloadN X2519 hx (hb hby d16_38) rfl rfl 39 rfl ?_
  refine own_aloadN X2519 hx (hb hby d16_39) rfl rfl 40 rfl ?_
  refine own_getF X2519 hx hZ hown (own_w hw 17 rfl) Via.refl e2519 F2526 (hb hby d16_40) 43 rfl (fun T2547 X2547 e2547 => ?_)
  refine own_iload X2547 hx (hb hby d16_43) rfl 45 rfl ?_
  refine own_iconst X2547 hx (hb hby d16_45) (1 : Int32) rfl 46 rfl ?_
  refine own_isub X2547 hx (hb hby d16_46) 47 rfl ?_
  show own_Go p e below G (T2547.setTop (mkF m 47 #[.val (.ref a), .val (.int (0 : Int32)), .val (.int (1 : Int32)), .val (.int (1 : Int32)), .val (.int (1 : Int32)), .val (.int (1 : Int32))] [(.int (0 : Int32)), (.ref a1_), (.ref a)]))
  refine own_iaload X2547 hx hZ e2547 V2537 0 rfl (0 : Int32) rfl (hb hby d16_47) 48 rfl ?_
  refine own_callP X2547 hx hZ hown (own_w hw 116 rfl) (own_w hw 117 rfl) (own_w hw 118 rfl) (own_niS hZ (own_w hw 60 rfl) (own_w hw 59 rfl) rfl) (own_w hw 9 rfl) (own_w hw 119 rfl) (by decide) e2547 E2522 (rm78 l Z a0 hw [] a a1_ a2_ a3_ a4_ a5_ a6_ a7_ a8_ a9_ a10_ a11_ va vb vp h2519 n0 Z2521 ga hord ⟨E2522, F2523, F2524, F2525, F2526, F2527, F2528, F2529, F2530, F2531, F2532, F2533, F2534, F2535, F2536, V2537, V2538, V2539, V2540, V2519, V2541, V2542, V2543, V2544, V2545, V2546⟩ hc) (by rw [hml]; rfl) pd_2 (argsL := [(.int (0 : Int32))]) rfl (rest := []) rfl (hb hby d16_48) 0 (Nat.le_of_eq rfl) (by decide) (by decide) (by decide) (by decide) 51 rfl (fun T2637 L2637 v2637 X2637 hQ2637 => ?_)
  obtain ⟨rfl, N2637, Z2637, B2637⟩ := hQ2637
  have N2638 := Fr.app N2520 N2637
  obtain ⟨E2637, F0_2637, F1_2637, F2_2637, F3_2637, F4_2637, F5_2637, F6_2637, F7_2637, F8_2637, F9_2637, F10_2637, F11_2637, F12_2637, F13_2637, V0_2637, V1_2637, V2_2637, V3_2637, V4_2637, V5_2637, V6_2637, V7_2637, V8_2637, V9_2637, V10_2637⟩ := B2637
  show own_Go p e below G (T2637.setTop (mkF m 51 #[.val (.ref a), .val (.int (0 : Int32)), .val (.int (1 : Int32)), .val (.int (1 : Int32)), .val (.int (1 : Int32)), .val (.int (1 : Int32))] [(.int (0 : Int32))]))
  refine own_istore X2637 hx (hb hby d16_51) #[.val (.ref a), .val (.int (0 : Int32)), .val (.int (1 : Int32)), .val (.int (1 : Int32)), .val (.int (0 : Int32)), .val (.int (1 : Int32))] rfl 53 rfl ?_
  refine own_iinc X2637 hx (hb hby d16_53) rfl #[.val (.ref a), .val (.int (0 : Int32)), .val (.int (1 : Int32)), .val (.int (1 : Int32)), .val (.int (0 : Int32)), .val (.int (0 : Int32))] rfl 56 rfl ?_
  refine own_goto X2637 hx (hb hby d16_56) 6 ⟨by decide, by decide⟩ ?_
  refine own_iload X2637 hx (hb hby d16_6) rfl 8 rfl ?_
  refine own_iloadN X2637 hx (hb hby d16_8) rfl 9 rfl ?_
  refine own_icmpY X2637 hx (hb hby d16_9) (flt (by decide)).2.2.2 59 ⟨by decide, by decide⟩ ?_
  refine own_iload X2637 hx (hb hby d16_59) rfl 61 rfl ?_
  refine own_ireturn X2637 hx Bd.notSynchronized hG Bd.returns (hb hby d16_61) (by decide) (by decide) ?_
  skip
  exact ⟨rfl, N2638, Z2637, ⟨E2637, F0_2637, F1_2637, F2_2637, F3_2637, F4_2637, F5_2637, F6_2637, F7_2637, F8_2637, F9_2637, F10_2637, F11_2637, F12_2637, F13_2637, V0_2637, V1_2637, V2_2637, V3_2637, V4_2637, V5_2637, V6_2637, V7_2637, V8_2637, V9_2637, V10_2637⟩⟩
def Q68 (Z : State) (a a1_ a2_ a3_ a4_ a5_ a6_ a7_ a8_ a9_ a10_ a11_ : Addr) (va vb vp : Int64) (h0 : Heap) (n0 : Nat) (v : Option Value) (h : Heap) (L : List Loc) : Prop := v = none ∧ Fr n0 L ∧ n0 ≤ h.size ∧ own_PE Z h a a1_ a2_ a3_ a4_ a5_ a6_ a7_ a8_ a9_ a10_ a11_ (0 : Int32) (0 : Int32) (2 : Int32) ((List.replicate 127 (0 : Int32)).set 0 (0 : Int32)) ((List.replicate 127 (0 : Int32)).set 0 (0 : Int32)) [(0 : Int32), (1 : Int32)] [(1 : Int32), (0 : Int32)] [(1 : Int32), (-1 : Int32)] [(-1 : Int32), (-1 : Int32)] [(2 : Int32), (1 : Int32)] [va, vb] [vp, vp] [(((((0 : Int64) + vp) + (0 : Int64)) + vp) + (0 : Int64)), (((0 : Int64) + vp) + (0 : Int64))]
theorem ef_rm68 (m : MethodId) (x0 : Addr) (x1 : Int32) : entryFrame m #[(.ref x0), (.int x1)] 2 = mkF m 0 #[.val (.ref x0), .val (.int x1)] [] := by first | (simp [entryFrame, mkF, argsToLocals, Value.category, maxLocals]; done) | rfl
set_option maxRecDepth 65536 in
set_option maxHeartbeats 40000000 in
theorem rm68 (l : Launch) (Z : State) (a0 : Array Value) (hw : ∀ d ∈ tables_1, d.before a0 Z = true) (ws : List Jvm.Cond) (a a1_ a2_ a3_ a4_ a5_ a6_ a7_ a8_ a9_ a10_ a11_ : Addr) (va vb vp : Int64) (h0 : Heap) (n0 : Nat) (Z0 : n0 ≤ h0.size) (ga : n0 ≤ a) (hord : own_Or a a1_ a2_ a3_ a4_ a5_ a6_ a7_ a8_ a9_ a10_ a11_) (B : own_PE Z h0 a a1_ a2_ a3_ a4_ a5_ a6_ a7_ a8_ a9_ a10_ a11_ (0 : Int32) (0 : Int32) (1 : Int32) (List.replicate 127 (0 : Int32)) (List.replicate 127 (0 : Int32)) [(0 : Int32), (1 : Int32)] [(1 : Int32), (0 : Int32)] [(-1 : Int32), (-1 : Int32)] [(-1 : Int32), (-1 : Int32)] [(1 : Int32), (0 : Int32)] [va, vb] [vp, vp] [(((0 : Int64) + vp) + (0 : Int64)), (0 : Int64)]) (hc : vb < va) :
    MetFree l own_y7 (head1 (Jvm.Cond.code own_y7 prog_49_method_12_code 2 none :: ws) ({ frames := 5, cells := 0, slots := 0, locals := 78 } : Room)) (fun aR U => aR = #[(.ref a), (.int (1 : Int32))] ∧ Z.Warmed39 U.vm ∧ U.heap = h0) (fun _ _ _ _ _ => True) (fun _ U o U' => ∃ v L, o = .returned v ∧ Q68 Z a a1_ a2_ a3_ a4_ a5_ a6_ a7_ a8_ a9_ a10_ a11_ va vb vp h0 n0 v U'.heap L ∧ FrameEnd U o U' L ({ frames := 5, cells := 0, slots := 0, locals := 78 } : Room).cells ({ frames := 5, cells := 0, slots := 0, locals := 78 } : Room).slots) := by
  refine MetFree.of_bodySF pf_7 hisR ?_
  intro p e s m args below meth c s₁ Bd hml0 hP hK
  obtain ⟨rfl, hZ, hhE⟩ := hP
  have hx := Bd.exec
  have hby := Bd.bytes
  have hml : c.maxLocals = 2 := hml0
  have hown : s.vm.findClass "com/example/equitide/equitide/policy/backfilling/AvlTree" = some m.cls := findClass_of_methodNamed Bd.named
  have hnm := (name_of_methodNamed Bd.named Bd.method).1
  have X0 : Stand p l e ({ frames := 5, cells := 0, slots := 0, locals := 78 } : Room) s m #[(.ref a), (.int (1 : Int32))] below meth c s₁ [] 0 0 := Stand.of_body Bd
  have e0 : s₁.heap = h0 := by rw [← hhE, Bd.state]; rfl
  have N0 := Fr.nil n0
  show own_Go p e below (own_Post s (Q68 Z a a1_ a2_ a3_ a4_ a5_ a6_ a7_ a8_ a9_ a10_ a11_ va vb vp h0 n0) ({ frames := 5, cells := 0, slots := 0, locals := 78 } : Room).cells ({ frames := 5, cells := 0, slots := 0, locals := 78 } : Room).slots) (s₁.setTop (entryFrame m #[(.ref a), (.int (1 : Int32))] 2))
  rw [ef_rm68]
  generalize hG : own_Post s (Q68 Z a a1_ a2_ a3_ a4_ a5_ a6_ a7_ a8_ a9_ a10_ a11_ va vb vp h0 n0) ({ frames := 5, cells := 0, slots := 0, locals := 78 } : Room).cells ({ frames := 5, cells := 0, slots := 0, locals := 78 } : Room).slots = G
  obtain ⟨o1, o2, o3, o4, o5, o6, o7, o8, o9, o10, o11⟩ := id hord
  obtain ⟨E0, F0_0, F1_0, F2_0, F3_0, F4_0, F5_0, F6_0, F7_0, F8_0, F9_0, F10_0, F11_0, F12_0, F13_0, V0_0, V1_0, V2_0, V3_0, V4_0, V5_0, V6_0, V7_0, V8_0, V9_0, V10_0⟩ := B
  refine own_aloadN X0 hx (hb hby d7_0) rfl rfl 1 rfl ?_
  refine own_dup X0 hx (hb hby d7_1) rfl 2 rfl ?_
  refine own_getF X0 hx hZ hown (own_w hw 68 rfl) Via.refl e0 F2_0 (hb hby d7_2) 5 rfl (fun T2336 X2336 e2336 => ?_)
  refine own_iconst X2336 hx (hb hby d7_5) (1 : Int32) rfl 6 rfl ?_
  refine own_iadd X2336 hx (hb hby d7_6) 7 rfl ?_
  show own_Go p e below G (T2336.setTop (mkF m 7 #[.val (.ref a), .val (.int (1 : Int32))] [(.int (2 : Int32)), (.ref a)]))
  refine own_putF X2336 hx hZ hown (own_w hw 68 rfl) Via.refl e2336 F2_0 E0 (Or.inl (own_w hw 69 rfl)) (own_w hw 1 rfl) (ty := .int) (v' := (.int (2 : Int32))) (by decide) rfl rfl (hb hby d7_7) 10 rfl (fun T2337 h2337 X2337 e2337 W2337 => ?_)
  have N2338 := Fr.snoc X2337 N0 ga
  have Z2339 : n0 ≤ h2337.size := by rw [W2337.size]; exact Z0
  have E2340 := E0.wr W2337
  have F2341 := F0_0.other W2337 (Or.inr (sn_169 hw))
  have F2342 := F1_0.other W2337 (Or.inr (sn_170 hw))
  have F2343 := F2_0.same W2337
  have F2344 := F3_0.other W2337 (Or.inr (sn_171 hw))
  have F2345 := F4_0.other W2337 (Or.inr (sn_172 hw))
  have F2346 := F5_0.other W2337 (Or.inr (sn_173 hw))
  have F2347 := F6_0.other W2337 (Or.inr (sn_174 hw))
  have F2348 := F7_0.other W2337 (Or.inr (sn_175 hw))
  have F2349 := F8_0.other W2337 (Or.inr (sn_176 hw))
  have F2350 := F9_0.other W2337 (Or.inr (sn_177 hw))
  have F2351 := F10_0.other W2337 (Or.inr (sn_178 hw))
  have F2352 := F11_0.other W2337 (Or.inr (sn_179 hw))
  have F2353 := F12_0.other W2337 (Or.inr (sn_180 hw))
  have F2354 := F13_0.other W2337 (Or.inr (sn_181 hw))
  have V2355 := V0_0.other W2337 (Ne.symm (Nat.ne_of_lt (by omega)))
  have V2356 := V1_0.other W2337 (Ne.symm (Nat.ne_of_lt (by omega)))
  have V2357 := V2_0.other W2337 (Ne.symm (Nat.ne_of_lt (by omega)))
  have V2358 := V3_0.other W2337 (Ne.symm (Nat.ne_of_lt (by omega)))
  have V2359 := V4_0.other W2337 (Ne.symm (Nat.ne_of_lt (by omega)))
  have V2360 := V5_0.other W2337 (Ne.symm (Nat.ne_of_lt (by omega)))
  have V2361 := V6_0.other W2337 (Ne.symm (Nat.ne_of_lt (by omega)))
  have V2362 := V7_0.other W2337 (Ne.symm (Nat.ne_of_lt (by omega)))
  have V2363 := V8_0.other W2337 (Ne.symm (Nat.ne_of_lt (by omega)))
  have V2364 := V9_0.other W2337 (Ne.symm (Nat.ne_of_lt (by omega)))
  have V2365 := V10_0.other W2337 (Ne.symm (Nat.ne_of_lt (by omega)))
  refine own_aloadN X2337 hx (hb hby d7_10) rfl rfl 11 rfl ?_
  refine own_iloadN X2337 hx (hb hby d7_11) rfl 12 rfl ?_
  refine own_callP X2337 hx hZ hown (own_w hw 70 rfl) (own_w hw 71 rfl) (own_w hw 72 rfl) (own_niS hZ (own_w hw 60 rfl) (own_w hw 59 rfl) rfl) (own_w hw 9 rfl) (own_w hw 73 rfl) (by decide) e2337 E2340 (rm69 l Z a0 hw [] a a1_ a2_ a3_ a4_ a5_ a6_ a7_ a8_ a9_ a10_ a11_ va vb vp h2337 n0 Z2339 ga hord ⟨E2340, F2341, F2342, F2343, F2344, F2345, F2346, F2347, F2348, F2349, F2350, F2351, F2352, F2353, F2354, V2355, V2356, V2357, V2358, V2359, V2360, V2361, V2362, V2363, V2364, V2365⟩ hc) (by rw [hml]; rfl) pd_5 (argsL := [(.int (1 : Int32))]) rfl (rest := []) rfl (hb hby d7_12) 0 (Nat.le_of_eq rfl) (by decide) (by decide) (by decide) (by decide) 15 rfl (fun T2445 L2445 v2445 X2445 hQ2445 => ?_)
  obtain ⟨rfl, N2445, Z2445, B2445⟩ := hQ2445
  have N2446 := Fr.app N2338 N2445
  obtain ⟨E2445, F0_2445, F1_2445, F2_2445, F3_2445, F4_2445, F5_2445, F6_2445, F7_2445, F8_2445, F9_2445, F10_2445, F11_2445, F12_2445, F13_2445, V0_2445, V1_2445, V2_2445, V3_2445, V4_2445, V5_2445, V6_2445, V7_2445, V8_2445, V9_2445, V10_2445⟩ := B2445
  show own_Go p e below G (T2445.setTop (mkF m 15 #[.val (.ref a), .val (.int (1 : Int32))] []))
  refine own_aloadN X2445 hx (hb hby d7_15) rfl rfl 16 rfl ?_
  refine own_aloadN X2445 hx (hb hby d7_16) rfl rfl 17 rfl ?_
  refine own_iconst X2445 hx (hb hby d7_17) (0 : Int32) rfl 18 rfl ?_
  refine own_aloadN X2445 hx (hb hby d7_18) rfl rfl 19 rfl ?_
  refine own_iloadN X2445 hx (hb hby d7_19) rfl 20 rfl ?_
  refine own_iconst X2445 hx (hb hby d7_20) (-1 : Int32) rfl 21 rfl ?_
  refine own_callP X2445 hx hZ hown (own_w hw 103 rfl) (own_w hw 104 rfl) (own_w hw 105 rfl) (own_niS hZ (own_w hw 60 rfl) (own_w hw 59 rfl) rfl) (own_w hw 9 rfl) (own_w hw 106 rfl) (by decide) (rfl : T2445.heap = T2445.heap) E2445 (rm75 l Z a0 hw [] a a1_ a2_ a3_ a4_ a5_ a6_ a7_ a8_ a9_ a10_ a11_ va vb vp T2445.heap n0 Z2445 ga hord ⟨E2445, F0_2445, F1_2445, F2_2445, F3_2445, F4_2445, F5_2445, F6_2445, F7_2445, F8_2445, F9_2445, F10_2445, F11_2445, F12_2445, F13_2445, V0_2445, V1_2445, V2_2445, V3_2445, V4_2445, V5_2445, V6_2445, V7_2445, V8_2445, V9_2445, V10_2445⟩ hc) (by rw [hml]; rfl) pd_3 (argsL := [(.int (1 : Int32)), (.int (-1 : Int32))]) rfl (rest := [(.int (0 : Int32)), (.ref a), (.ref a)]) rfl (hb hby d7_21) 3 (Nat.le_of_eq rfl) (by decide) (by decide) (by decide) (by decide) 24 rfl (fun T2514 L2514 v2514 X2514 hQ2514 => ?_)
  obtain ⟨rfl, N2514, Z2514, B2514⟩ := hQ2514
  have N2515 := Fr.app N2446 N2514
  obtain ⟨E2514, F0_2514, F1_2514, F2_2514, F3_2514, F4_2514, F5_2514, F6_2514, F7_2514, F8_2514, F9_2514, F10_2514, F11_2514, F12_2514, F13_2514, V0_2514, V1_2514, V2_2514, V3_2514, V4_2514, V5_2514, V6_2514, V7_2514, V8_2514, V9_2514, V10_2514⟩ := B2514
  show own_Go p e below G (T2514.setTop (mkF m 24 #[.val (.ref a), .val (.int (1 : Int32))] [(.int (1 : Int32)), (.int (0 : Int32)), (.ref a), (.ref a)]))
  refine own_iloadN X2514 hx (hb hby d7_24) rfl 25 rfl ?_
  refine own_callP X2514 hx hZ hown (own_w hw 107 rfl) (own_w hw 108 rfl) (own_w hw 109 rfl) (own_niS hZ (own_w hw 60 rfl) (own_w hw 59 rfl) rfl) (own_w hw 9 rfl) (own_w hw 110 rfl) (by decide) (rfl : T2514.heap = T2514.heap) E2514 (rm77 l Z a0 hw [] a a1_ a2_ a3_ a4_ a5_ a6_ a7_ a8_ a9_ a10_ a11_ va vb vp T2514.heap n0 Z2514 ga hord ⟨E2514, F0_2514, F1_2514, F2_2514, F3_2514, F4_2514, F5_2514, F6_2514, F7_2514, F8_2514, F9_2514, F10_2514, F11_2514, F12_2514, F13_2514, V0_2514, V1_2514, V2_2514, V3_2514, V4_2514, V5_2514, V6_2514, V7_2514, V8_2514, V9_2514, V10_2514⟩ hc) (by rw [hml]; rfl) pd_6 (argsL := [(.int (0 : Int32)), (.int (1 : Int32)), (.int (1 : Int32))]) rfl (rest := [(.ref a)]) rfl (hb hby d7_25) 1 (Nat.le_of_eq rfl) (by decide) (by decide) (by decide) (by decide) 28 rfl (fun T2639 L2639 v2639 X2639 hQ2639 => ?_)
  obtain ⟨rfl, N2639, Z2639, B2639⟩ := hQ2639
  have N2640 := Fr.app N2515 N2639
  obtain ⟨E2639, F0_2639, F1_2639, F2_2639, F3_2639, F4_2639, F5_2639, F6_2639, F7_2639, F8_2639, F9_2639, F10_2639, F11_2639, F12_2639, F13_2639, V0_2639, V1_2639, V2_2639, V3_2639, V4_2639, V5_2639, V6_2639, V7_2639, V8_2639, V9_2639, V10_2639⟩ := B2639
  show own_Go p e below G (T2639.setTop (mkF m 28 #[.val (.ref a), .val (.int (1 : Int32))] [(.int (0 : Int32)), (.ref a)]))
  refine own_putF X2639 hx hZ hown (own_w hw 14 rfl) Via.refl (rfl : T2639.heap = T2639.heap) F0_2639 E2639 (Or.inl (own_w hw 15 rfl)) (own_w hw 1 rfl) (ty := .int) (v' := (.int (0 : Int32))) (by decide) rfl rfl (hb hby d7_28) 31 rfl (fun T2641 h2641 X2641 e2641 W2641 => ?_)
  have N2642 := Fr.snoc X2641 N2640 ga
  have Z2643 : n0 ≤ h2641.size := by rw [W2641.size]; exact Z2639
  have E2644 := E2639.wr W2641
  have F2645 := F0_2639.same W2641
  have F2646 := F1_2639.other W2641 (Or.inr (sn_0 hw))
  have F2647 := F2_2639.other W2641 (Or.inr (sn_1 hw))
  have F2648 := F3_2639.other W2641 (Or.inr (sn_2 hw))
  have F2649 := F4_2639.other W2641 (Or.inr (sn_3 hw))
  have F2650 := F5_2639.other W2641 (Or.inr (sn_4 hw))
  have F2651 := F6_2639.other W2641 (Or.inr (sn_5 hw))
  have F2652 := F7_2639.other W2641 (Or.inr (sn_6 hw))
  have F2653 := F8_2639.other W2641 (Or.inr (sn_7 hw))
  have F2654 := F9_2639.other W2641 (Or.inr (sn_8 hw))
  have F2655 := F10_2639.other W2641 (Or.inr (sn_9 hw))
  have F2656 := F11_2639.other W2641 (Or.inr (sn_10 hw))
  have F2657 := F12_2639.other W2641 (Or.inr (sn_11 hw))
  have F2658 := F13_2639.other W2641 (Or.inr (sn_12 hw))
  have V2659 := V0_2639.other W2641 (Ne.symm (Nat.ne_of_lt (by omega)))
  have V2660 := V1_2639.other W2641 (Ne.symm (Nat.ne_of_lt (by omega)))
  have V2661 := V2_2639.other W2641 (Ne.symm (Nat.ne_of_lt (by omega)))
  have V2662 := V3_2639.other W2641 (Ne.symm (Nat.ne_of_lt (by omega)))
  have V2663 := V4_2639.other W2641 (Ne.symm (Nat.ne_of_lt (by omega)))
  have V2664 := V5_2639.other W2641 (Ne.symm (Nat.ne_of_lt (by omega)))
  have V2665 := V6_2639.other W2641 (Ne.symm (Nat.ne_of_lt (by omega)))
  have V2666 := V7_2639.other W2641 (Ne.symm (Nat.ne_of_lt (by omega)))
  have V2667 := V8_2639.other W2641 (Ne.symm (Nat.ne_of_lt (by omega)))
  have V2668 := V9_2639.other W2641 (Ne.symm (Nat.ne_of_lt (by omega)))
  have V2669 := V10_2639.other W2641 (Ne.symm (Nat.ne_of_lt (by omega)))
  refine own_return X2641 hx Bd.notSynchronized hG Bd.returns (hb hby d7_31) (by decide) (by decide) ?_
  rw [e2641]
  exact ⟨rfl, N2642, Z2643, ⟨E2644, F2645, F2646, F2647, F2648, F2649, F2650, F2651, F2652, F2653, F2654, F2655, F2656, F2657, F2658, V2659, V2660, V2661, V2662, V2663, V2664, V2665, V2666, V2667, V2668, V2669⟩⟩
def Q65 (Z : State) (a a1_ a2_ a3_ a4_ a5_ a6_ a7_ a8_ a9_ a10_ a11_ : Addr) (va vb vp : Int64) (h0 : Heap) (n0 : Nat) (v : Option Value) (h : Heap) (L : List Loc) : Prop := v = none ∧ Fr n0 L ∧ n0 ≤ h.size ∧ own_PE Z h a a1_ a2_ a3_ a4_ a5_ a6_ a7_ a8_ a9_ a10_ a11_ (0 : Int32) (0 : Int32) (2 : Int32) ((List.replicate 127 (0 : Int32)).set 0 (0 : Int32)) ((List.replicate 127 (0 : Int32)).set 0 (0 : Int32)) [(0 : Int32), (1 : Int32)] [(1 : Int32), (0 : Int32)] [(1 : Int32), (-1 : Int32)] [(-1 : Int32), (-1 : Int32)] [(2 : Int32), (1 : Int32)] [va, vb] [vp, vp] [(((((0 : Int64) + vp) + (0 : Int64)) + vp) + (0 : Int64)), (((0 : Int64) + vp) + (0 : Int64))]
theorem ef_rm65 (m : MethodId) (x0 : Addr) (x1 : Int32) (x2 : Int64) (x3 : Int64) : entryFrame m #[(.ref x0), (.int x1), (.long x2), (.long x3)] 7 = mkF m 0 #[.val (.ref x0), .val (.int x1), .val (.long x2), .second, .val (.long x3), .second, .unset] [] := by first | (simp [entryFrame, mkF, argsToLocals, Value.category, maxLocals]; done) | rfl
set_option maxRecDepth 65536 in
set_option maxHeartbeats 40000000 in
theorem rm65 (l : Launch) (Z : State) (a0 : Array Value) (hw : ∀ d ∈ tables_1, d.before a0 Z = true) (ws : List Jvm.Cond) (a a1_ a2_ a3_ a4_ a5_ a6_ a7_ a8_ a9_ a10_ a11_ : Addr) (va vb vp : Int64) (h0 : Heap) (n0 : Nat) (Z0 : n0 ≤ h0.size) (ga : n0 ≤ a) (hord : own_Or a a1_ a2_ a3_ a4_ a5_ a6_ a7_ a8_ a9_ a10_ a11_) (B : own_PE Z h0 a a1_ a2_ a3_ a4_ a5_ a6_ a7_ a8_ a9_ a10_ a11_ (0 : Int32) (1 : Int32) (1 : Int32) (List.replicate 127 (0 : Int32)) (List.replicate 127 (0 : Int32)) [(0 : Int32), (0 : Int32)] [(1 : Int32), (0 : Int32)] [(-1 : Int32), (0 : Int32)] [(-1 : Int32), (0 : Int32)] [(1 : Int32), (0 : Int32)] [va, (0 : Int64)] [vp, (0 : Int64)] [(((0 : Int64) + vp) + (0 : Int64)), (0 : Int64)]) (hc : vb < va) :
    MetFree l own_y4 (head1 (Jvm.Cond.code own_y4 prog_66_method_2_code 7 none :: ws) ({ frames := 6, cells := 0, slots := 0, locals := 91 } : Room)) (fun aR U => aR = #[(.ref a), (.int (1 : Int32)), (.long vb), (.long vp)] ∧ Z.Warmed39 U.vm ∧ U.heap = h0) (fun _ _ _ _ _ => True) (fun _ U o U' => ∃ v L, o = .returned v ∧ Q65 Z a a1_ a2_ a3_ a4_ a5_ a6_ a7_ a8_ a9_ a10_ a11_ va vb vp h0 n0 v U'.heap L ∧ FrameEnd U o U' L ({ frames := 6, cells := 0, slots := 0, locals := 91 } : Room).cells ({ frames := 6, cells := 0, slots := 0, locals := 91 } : Room).slots) := by
  refine MetFree.of_bodySF pf_4 hisR ?_
  intro p e s m args below meth c s₁ Bd hml0 hP hK
  obtain ⟨rfl, hZ, hhE⟩ := hP
  have hx := Bd.exec
  have hby := Bd.bytes
  have hml : c.maxLocals = 7 := hml0
  have hown : s.vm.findClass "com/example/equitide/equitide/policy/backfilling/PlannedEnds" = some m.cls := findClass_of_methodNamed Bd.named
  have hnm := (name_of_methodNamed Bd.named Bd.method).1
  have X0 : Stand p l e ({ frames := 6, cells := 0, slots := 0, locals := 91 } : Room) s m #[(.ref a), (.int (1 : Int32)), (.long vb), (.long vp)] below meth c s₁ [] 0 0 := Stand.of_body Bd
  have e0 : s₁.heap = h0 := by rw [← hhE, Bd.state]; rfl
  have N0 := Fr.nil n0
  show own_Go p e below (own_Post s (Q65 Z a a1_ a2_ a3_ a4_ a5_ a6_ a7_ a8_ a9_ a10_ a11_ va vb vp h0 n0) ({ frames := 6, cells := 0, slots := 0, locals := 91 } : Room).cells ({ frames := 6, cells := 0, slots := 0, locals := 91 } : Room).slots) (s₁.setTop (entryFrame m #[(.ref a), (.int (1 : Int32)), (.long vb), (.long vp)] 7))
  rw [ef_rm65]
  generalize hG : own_Post s (Q65 Z a a1_ a2_ a3_ a4_ a5_ a6_ a7_ a8_ a9_ a10_ a11_ va vb vp h0 n0) ({ frames := 6, cells := 0, slots := 0, locals := 91 } : Room).cells ({ frames := 6, cells := 0, slots := 0, locals := 91 } : Room).slots = G
  obtain ⟨o1, o2, o3, o4, o5, o6, o7, o8, o9, o10, o11⟩ := id hord
  obtain ⟨E0, F0_0, F1_0, F2_0, F3_0, F4_0, F5_0, F6_0, F7_0, F8_0, F9_0, F10_0, F11_0, F12_0, F13_0, V0_0, V1_0, V2_0, V3_0, V4_0, V5_0, V6_0, V7_0, V8_0, V9_0, V10_0⟩ := B
  refine own_aloadN X0 hx (hb hby d4_0) rfl rfl 1 rfl ?_
  refine own_iloadN X0 hx (hb hby d4_1) rfl 2 rfl ?_
  refine own_callU X0 hx hZ hown (own_w hw 51 rfl) (own_w hw 52 rfl) (own_w hw 53 rfl) (own_w hw 55 rfl) (own_w hw 54 rfl) (own_w hw 9 rfl) (own_w hw 56 rfl) (by decide) e0 E0 (rm66 l Z a0 hw [] a a1_ a2_ a3_ a4_ a5_ a6_ a7_ a8_ a9_ a10_ a11_ va vb vp h0 n0 Z0 ga hord ⟨E0, F0_0, F1_0, F2_0, F3_0, F4_0, F5_0, F6_0, F7_0, F8_0, F9_0, F10_0, F11_0, F12_0, F13_0, V0_0, V1_0, V2_0, V3_0, V4_0, V5_0, V6_0, V7_0, V8_0, V9_0, V10_0⟩ hc) (by rw [hml]; rfl) pd_2 (argsL := [(.int (1 : Int32))]) rfl (rest := []) rfl (hb hby d4_2) 0 (Nat.le_of_eq rfl) (by decide) (by decide) (by decide) (by decide) 5 rfl (fun T2276 L2276 v2276 X2276 hQ2276 => ?_)
  obtain ⟨rfl, N2276, Z2276, B2276⟩ := hQ2276
  have N2277 := Fr.app N0 N2276
  obtain ⟨E2276, F0_2276, F1_2276, F2_2276, F3_2276, F4_2276, F5_2276, F6_2276, F7_2276, F8_2276, F9_2276, F10_2276, F11_2276, F12_2276, F13_2276, V0_2276, V1_2276, V2_2276, V3_2276, V4_2276, V5_2276, V6_2276, V7_2276, V8_2276, V9_2276, V10_2276⟩ := B2276
  show own_Go p e below G (T2276.setTop (mkF m 5 #[.val (.ref a), .val (.int (1 : Int32)), .val (.long vb), .second, .val (.long vp), .second, .unset] [(.int (1 : Int32))]))
  refine own_istore X2276 hx (hb hby d4_5) #[.val (.ref a), .val (.int (1 : Int32)), .val (.long vb), .second, .val (.long vp), .second, .val (.int (1 : Int32))] rfl 7 rfl ?_
  refine own_aloadN X2276 hx (hb hby d4_7) rfl rfl 8 rfl ?_
  refine own_getF X2276 hx hZ hown (own_w hw 40 rfl) Via.refl (rfl : T2276.heap = T2276.heap) F11_2276 (hb hby d4_8) 11 rfl (fun T2278 X2278 e2278 => ?_)
  refine own_iload X2278 hx (hb hby d4_11) rfl 13 rfl ?_
  refine own_lloadN X2278 hx (hb hby d4_13) rfl 14 rfl ?_
  refine own_lastore X2278 hx hZ e2278 V8_2276 1 rfl (by simp) (hb hby d4_14) 15 rfl (fun T2279 h2279 X2279 e2279 W2279 V2279 => ?_)
  rw [show [va, (0 : Int64)].set 1 vb = [va, vb] from rfl] at V2279
  have N2280 := Fr.snoc X2279 N2277 (by omega)
  have Z2281 : n0 ≤ h2279.size := by rw [W2279.size]; exact Z2276
  have E2282 := E2276.wr W2279
  have F2283 := F0_2276.other W2279 (Or.inl (Nat.ne_of_lt (by omega)))
  have F2284 := F1_2276.other W2279 (Or.inl (Nat.ne_of_lt (by omega)))
  have F2285 := F2_2276.other W2279 (Or.inl (Nat.ne_of_lt (by omega)))
  have F2286 := F3_2276.other W2279 (Or.inl (Nat.ne_of_lt (by omega)))
  have F2287 := F4_2276.other W2279 (Or.inl (Nat.ne_of_lt (by omega)))
  have F2288 := F5_2276.other W2279 (Or.inl (Nat.ne_of_lt (by omega)))
  have F2289 := F6_2276.other W2279 (Or.inl (Nat.ne_of_lt (by omega)))
  have F2290 := F7_2276.other W2279 (Or.inl (Nat.ne_of_lt (by omega)))
  have F2291 := F8_2276.other W2279 (Or.inl (Nat.ne_of_lt (by omega)))
  have F2292 := F9_2276.other W2279 (Or.inl (Nat.ne_of_lt (by omega)))
  have F2293 := F10_2276.other W2279 (Or.inl (Nat.ne_of_lt (by omega)))
  have F2294 := F11_2276.other W2279 (Or.inl (Nat.ne_of_lt (by omega)))
  have F2295 := F12_2276.other W2279 (Or.inl (Nat.ne_of_lt (by omega)))
  have F2296 := F13_2276.other W2279 (Or.inl (Nat.ne_of_lt (by omega)))
  have V2297 := V0_2276.other W2279 (Nat.ne_of_lt (by omega))
  have V2298 := V1_2276.other W2279 (Nat.ne_of_lt (by omega))
  have V2299 := V2_2276.other W2279 (Nat.ne_of_lt (by omega))
  have V2300 := V3_2276.other W2279 (Nat.ne_of_lt (by omega))
  have V2301 := V4_2276.other W2279 (Nat.ne_of_lt (by omega))
  have V2302 := V5_2276.other W2279 (Nat.ne_of_lt (by omega))
  have V2303 := V6_2276.other W2279 (Nat.ne_of_lt (by omega))
  have V2304 := V7_2276.other W2279 (Nat.ne_of_lt (by omega))
  have V2305 := V9_2276.other W2279 (Ne.symm (Nat.ne_of_lt (by omega)))
  have V2306 := V10_2276.other W2279 (Ne.symm (Nat.ne_of_lt (by omega)))
  refine own_aloadN X2279 hx (hb hby d4_15) rfl rfl 16 rfl ?_
  refine own_getF X2279 hx hZ hown (own_w hw 42 rfl) Via.refl e2279 F2295 (hb hby d4_16) 19 rfl (fun T2307 X2307 e2307 => ?_)
  refine own_iload X2307 hx (hb hby d4_19) rfl 21 rfl ?_
  refine own_lload X2307 hx (hb hby d4_21) rfl 23 rfl ?_
  refine own_lastore X2307 hx hZ e2307 V2305 1 rfl (by simp) (hb hby d4_23) 24 rfl (fun T2308 h2308 X2308 e2308 W2308 V2308 => ?_)
  rw [show [vp, (0 : Int64)].set 1 vp = [vp, vp] from rfl] at V2308
  have N2309 := Fr.snoc X2308 N2280 (by omega)
  have Z2310 : n0 ≤ h2308.size := by rw [W2308.size]; exact Z2281
  have E2311 := E2282.wr W2308
  have F2312 := F2283.other W2308 (Or.inl (Nat.ne_of_lt (by omega)))
  have F2313 := F2284.other W2308 (Or.inl (Nat.ne_of_lt (by omega)))
  have F2314 := F2285.other W2308 (Or.inl (Nat.ne_of_lt (by omega)))
  have F2315 := F2286.other W2308 (Or.inl (Nat.ne_of_lt (by omega)))
  have F2316 := F2287.other W2308 (Or.inl (Nat.ne_of_lt (by omega)))
  have F2317 := F2288.other W2308 (Or.inl (Nat.ne_of_lt (by omega)))
  have F2318 := F2289.other W2308 (Or.inl (Nat.ne_of_lt (by omega)))
  have F2319 := F2290.other W2308 (Or.inl (Nat.ne_of_lt (by omega)))
  have F2320 := F2291.other W2308 (Or.inl (Nat.ne_of_lt (by omega)))
  have F2321 := F2292.other W2308 (Or.inl (Nat.ne_of_lt (by omega)))
  have F2322 := F2293.other W2308 (Or.inl (Nat.ne_of_lt (by omega)))
  have F2323 := F2294.other W2308 (Or.inl (Nat.ne_of_lt (by omega)))
  have F2324 := F2295.other W2308 (Or.inl (Nat.ne_of_lt (by omega)))
  have F2325 := F2296.other W2308 (Or.inl (Nat.ne_of_lt (by omega)))
  have V2326 := V2297.other W2308 (Nat.ne_of_lt (by omega))
  have V2327 := V2298.other W2308 (Nat.ne_of_lt (by omega))
  have V2328 := V2299.other W2308 (Nat.ne_of_lt (by omega))
  have V2329 := V2300.other W2308 (Nat.ne_of_lt (by omega))
  have V2330 := V2301.other W2308 (Nat.ne_of_lt (by omega))
  have V2331 := V2302.other W2308 (Nat.ne_of_lt (by omega))
  have V2332 := V2303.other W2308 (Nat.ne_of_lt (by omega))
  have V2333 := V2304.other W2308 (Nat.ne_of_lt (by omega))
  have V2334 := V2306.other W2308 (Ne.symm (Nat.ne_of_lt (by omega)))
  have V2335 := V2279.other W2308 (Nat.ne_of_lt (by omega))
  refine own_aloadN X2308 hx (hb hby d4_24) rfl rfl 25 rfl ?_
  refine own_iload X2308 hx (hb hby d4_25) rfl 27 rfl ?_
  refine own_callU X2308 hx hZ hown (own_w hw 62 rfl) (own_w hw 63 rfl) (own_w hw 64 rfl) (own_w hw 66 rfl) (own_w hw 65 rfl) (own_w hw 9 rfl) (own_w hw 67 rfl) (by decide) e2308 E2311 (rm68 l Z a0 hw [] a a1_ a2_ a3_ a4_ a5_ a6_ a7_ a8_ a9_ a10_ a11_ va vb vp h2308 n0 Z2310 ga hord ⟨E2311, F2312, F2313, F2314, F2315, F2316, F2317, F2318, F2319, F2320, F2321, F2322, F2323, F2324, F2325, V2326, V2327, V2328, V2329, V2330, V2331, V2332, V2333, V2335, V2308, V2334⟩ hc) (by rw [hml]; rfl) pd_5 (argsL := [(.int (1 : Int32))]) rfl (rest := []) rfl (hb hby d4_27) 0 (Nat.le_of_eq rfl) (by decide) (by decide) (by decide) (by decide) 30 rfl (fun T2670 L2670 v2670 X2670 hQ2670 => ?_)
  obtain ⟨rfl, N2670, Z2670, B2670⟩ := hQ2670
  have N2671 := Fr.app N2309 N2670
  obtain ⟨E2670, F0_2670, F1_2670, F2_2670, F3_2670, F4_2670, F5_2670, F6_2670, F7_2670, F8_2670, F9_2670, F10_2670, F11_2670, F12_2670, F13_2670, V0_2670, V1_2670, V2_2670, V3_2670, V4_2670, V5_2670, V6_2670, V7_2670, V8_2670, V9_2670, V10_2670⟩ := B2670
  show own_Go p e below G (T2670.setTop (mkF m 30 #[.val (.ref a), .val (.int (1 : Int32)), .val (.long vb), .second, .val (.long vp), .second, .val (.int (1 : Int32))] []))
  refine own_return X2670 hx Bd.notSynchronized hG Bd.returns (hb hby d4_30) (by decide) (by decide) ?_
  skip
  exact ⟨rfl, N2671, Z2670, ⟨E2670, F0_2670, F1_2670, F2_2670, F3_2670, F4_2670, F5_2670, F6_2670, F7_2670, F8_2670, F9_2670, F10_2670, F11_2670, F12_2670, F13_2670, V0_2670, V1_2670, V2_2670, V3_2670, V4_2670, V5_2670, V6_2670, V7_2670, V8_2670, V9_2670, V10_2670⟩⟩
def Q87 (Z : State) (a a1_ a2_ a3_ a4_ a5_ a6_ a7_ a8_ a9_ a10_ a11_ : Addr) (va vb vp : Int64) (h0 : Heap) (n0 : Nat) (v : Option Value) (h : Heap) (L : List Loc) : Prop := v = some (.int (0 : Int32)) ∧ Fr n0 L ∧ h = h0
theorem ef_rm87 (m : MethodId) (x0 : Addr) (x1 : Int32) (x2 : Int32) : entryFrame m #[(.ref x0), (.int x1), (.int x2)] 3 = mkF m 0 #[.val (.ref x0), .val (.int x1), .val (.int x2)] [] := by first | (simp [entryFrame, mkF, argsToLocals, Value.category, maxLocals]; done) | rfl
set_option maxRecDepth 65536 in
set_option maxHeartbeats 40000000 in
theorem rm87 (l : Launch) (Z : State) (a0 : Array Value) (hw : ∀ d ∈ tables_1, d.before a0 Z = true) (ws : List Jvm.Cond) (a a1_ a2_ a3_ a4_ a5_ a6_ a7_ a8_ a9_ a10_ a11_ : Addr) (va vb vp : Int64) (h0 : Heap) (n0 : Nat) (Z0 : n0 ≤ h0.size) (ga : n0 ≤ a) (hord : own_Or a a1_ a2_ a3_ a4_ a5_ a6_ a7_ a8_ a9_ a10_ a11_) (B : own_PE Z h0 a a1_ a2_ a3_ a4_ a5_ a6_ a7_ a8_ a9_ a10_ a11_ (0 : Int32) (0 : Int32) (2 : Int32) ((List.replicate 127 (0 : Int32)).set 0 (0 : Int32)) ((List.replicate 127 (0 : Int32)).set 0 (0 : Int32)) [(0 : Int32), (1 : Int32)] [(1 : Int32), (0 : Int32)] [(1 : Int32), (-1 : Int32)] [(-1 : Int32), (-1 : Int32)] [(2 : Int32), (1 : Int32)] [va, vb] [vp, vp] [(((((0 : Int64) + vp) + (0 : Int64)) + vp) + (0 : Int64)), (((0 : Int64) + vp) + (0 : Int64))]) (hc : vb < va) :
    MetFree l own_y17 (head1 (Jvm.Cond.code own_y17 prog_66_method_9_code 3 (some .boolean) :: ws) ({ frames := 0, cells := 0, slots := 0, locals := 0 } : Room)) (fun aR U => aR = #[(.ref a), (.int (0 : Int32)), (.int (1 : Int32))] ∧ Z.Warmed39 U.vm ∧ U.heap = h0) (fun _ _ _ _ _ => True) (fun _ U o U' => ∃ v L, o = .returned v ∧ Q87 Z a a1_ a2_ a3_ a4_ a5_ a6_ a7_ a8_ a9_ a10_ a11_ va vb vp h0 n0 v U'.heap L ∧ FrameEnd U o U' L ({ frames := 0, cells := 0, slots := 0, locals := 0 } : Room).cells ({ frames := 0, cells := 0, slots := 0, locals := 0 } : Room).slots) := by
  refine MetFree.of_bodySF pf_17 hisR ?_
  intro p e s m args below meth c s₁ Bd hml0 hP hK
  obtain ⟨rfl, hZ, hhE⟩ := hP
  have hx := Bd.exec
  have hby := Bd.bytes
  have hml : c.maxLocals = 3 := hml0
  have hown : s.vm.findClass "com/example/equitide/equitide/policy/backfilling/PlannedEnds" = some m.cls := findClass_of_methodNamed Bd.named
  have hnm := (name_of_methodNamed Bd.named Bd.method).1
  have X0 : Stand p l e ({ frames := 0, cells := 0, slots := 0, locals := 0 } : Room) s m #[(.ref a), (.int (0 : Int32)), (.int (1 : Int32))] below meth c s₁ [] 0 0 := Stand.of_body Bd
  have e0 : s₁.heap = h0 := by rw [← hhE, Bd.state]; rfl
  have N0 := Fr.nil n0
  show own_Go p e below (own_Post s (Q87 Z a a1_ a2_ a3_ a4_ a5_ a6_ a7_ a8_ a9_ a10_ a11_ va vb vp h0 n0) ({ frames := 0, cells := 0, slots := 0, locals := 0 } : Room).cells ({ frames := 0, cells := 0, slots := 0, locals := 0 } : Room).slots) (s₁.setTop (entryFrame m #[(.ref a), (.int (0 : Int32)), (.int (1 : Int32))] 3))
  rw [ef_rm87]
  generalize hG : own_Post s (Q87 Z a a1_ a2_ a3_ a4_ a5_ a6_ a7_ a8_ a9_ a10_ a11_ va vb vp h0 n0) ({ frames := 0, cells := 0, slots := 0, locals := 0 } : Room).cells ({ frames := 0, cells := 0, slots := 0, locals := 0 } : Room).slots = G
  obtain ⟨o1, o2, o3, o4, o5, o6, o7, o8, o9, o10, o11⟩ := id hord
  obtain ⟨E0, F0_0, F1_0, F2_0, F3_0, F4_0, F5_0, F6_0, F7_0, F8_0, F9_0, F10_0, F11_0, F12_0, F13_0, V0_0, V1_0, V2_0, V3_0, V4_0, V5_0, V6_0, V7_0, V8_0, V9_0, V10_0⟩ := B
  refine own_aloadN X0 hx (hb hby d17_0) rfl rfl 1 rfl ?_
  refine own_getF X0 hx hZ hown (own_w hw 40 rfl) Via.refl e0 F11_0 (hb hby d17_1) 4 rfl (fun T2674 X2674 e2674 => ?_)
  refine own_iloadN X2674 hx (hb hby d17_4) rfl 5 rfl ?_
  refine own_laload X2674 hx hZ e2674 V8_0 0 rfl va rfl (hb hby d17_5) 6 rfl ?_
  refine own_aloadN X2674 hx (hb hby d17_6) rfl rfl 7 rfl ?_
  refine own_getF X2674 hx hZ hown (own_w hw 40 rfl) Via.refl e2674 F11_0 (hb hby d17_7) 10 rfl (fun T2675 X2675 e2675 => ?_)
  refine own_iloadN X2675 hx (hb hby d17_10) rfl 11 rfl ?_
  refine own_laload X2675 hx hZ e2675 V8_0 1 rfl vb rfl (hb hby d17_11) 12 rfl ?_
  refine own_lcmp X2675 hx (hb hby d17_12) 13 rfl ?_
  refine own_ifN X2675 hx (hb hby d17_13) (own_neL (own_lne' hc)).1 16 rfl ?_
  refine own_aloadN X2675 hx (hb hby d17_16) rfl rfl 17 rfl ?_
  refine own_getF X2675 hx hZ hown (own_w hw 40 rfl) Via.refl e2675 F11_0 (hb hby d17_17) 20 rfl (fun T2676 X2676 e2676 => ?_)
  refine own_iloadN X2676 hx (hb hby d17_20) rfl 21 rfl ?_
  refine own_laload X2676 hx hZ e2676 V8_0 0 rfl va rfl (hb hby d17_21) 22 rfl ?_
  refine own_aloadN X2676 hx (hb hby d17_22) rfl rfl 23 rfl ?_
  refine own_getF X2676 hx hZ hown (own_w hw 40 rfl) Via.refl e2676 F11_0 (hb hby d17_23) 26 rfl (fun T2677 X2677 e2677 => ?_)
  refine own_iloadN X2677 hx (hb hby d17_26) rfl 27 rfl ?_
  refine own_laload X2677 hx hZ e2677 V8_0 1 rfl vb rfl (hb hby d17_27) 28 rfl ?_
  refine own_lcmp X2677 hx (hb hby d17_28) 29 rfl ?_
  refine own_ifY X2677 hx (hb hby d17_29) (own_nltL (own_lgt hc)).2 36 ⟨by decide, by decide⟩ ?_
  refine own_iconst X2677 hx (hb hby d17_36) (0 : Int32) rfl 37 rfl ?_
  refine own_goto X2677 hx (hb hby d17_37) 50 ⟨by decide, by decide⟩ ?_
  refine own_nreturn X2677 hx Bd.notSynchronized hG Bd.returns (by simp) (hb hby d17_50) (by decide) (by decide) ?_
  rw [e2677]
  exact ⟨rfl, N0, rfl⟩
def Q88 (Z : State) (a a1_ a2_ a3_ a4_ a5_ a6_ a7_ a8_ a9_ a10_ a11_ : Addr) (va vb vp : Int64) (h0 : Heap) (n0 : Nat) (v : Option Value) (h : Heap) (L : List Loc) : Prop := v = some (.int (1 : Int32)) ∧ Fr n0 L ∧ h = h0
theorem ef_rm88 (m : MethodId) (x0 : Addr) (x1 : Int32) (x2 : Int32) : entryFrame m #[(.ref x0), (.int x1), (.int x2)] 3 = mkF m 0 #[.val (.ref x0), .val (.int x1), .val (.int x2)] [] := by first | (simp [entryFrame, mkF, argsToLocals, Value.category, maxLocals]; done) | rfl
set_option maxRecDepth 65536 in
set_option maxHeartbeats 40000000 in
theorem rm88 (l : Launch) (Z : State) (a0 : Array Value) (hw : ∀ d ∈ tables_1, d.before a0 Z = true) (ws : List Jvm.Cond) (a a1_ a2_ a3_ a4_ a5_ a6_ a7_ a8_ a9_ a10_ a11_ : Addr) (va vb vp : Int64) (h0 : Heap) (n0 : Nat) (Z0 : n0 ≤ h0.size) (ga : n0 ≤ a) (hord : own_Or a a1_ a2_ a3_ a4_ a5_ a6_ a7_ a8_ a9_ a10_ a11_) (B : own_PE Z h0 a a1_ a2_ a3_ a4_ a5_ a6_ a7_ a8_ a9_ a10_ a11_ (0 : Int32) (0 : Int32) (2 : Int32) ((List.replicate 127 (0 : Int32)).set 0 (0 : Int32)) ((List.replicate 127 (0 : Int32)).set 0 (0 : Int32)) [(0 : Int32), (1 : Int32)] [(1 : Int32), (0 : Int32)] [(1 : Int32), (-1 : Int32)] [(-1 : Int32), (-1 : Int32)] [(2 : Int32), (1 : Int32)] [va, vb] [vp, vp] [(((((0 : Int64) + vp) + (0 : Int64)) + vp) + (0 : Int64)), (((0 : Int64) + vp) + (0 : Int64))]) (hc : vb < va) :
    MetFree l own_y17 (head1 (Jvm.Cond.code own_y17 prog_66_method_9_code 3 (some .boolean) :: ws) ({ frames := 0, cells := 0, slots := 0, locals := 0 } : Room)) (fun aR U => aR = #[(.ref a), (.int (1 : Int32)), (.int (0 : Int32))] ∧ Z.Warmed39 U.vm ∧ U.heap = h0) (fun _ _ _ _ _ => True) (fun _ U o U' => ∃ v L, o = .returned v ∧ Q88 Z a a1_ a2_ a3_ a4_ a5_ a6_ a7_ a8_ a9_ a10_ a11_ va vb vp h0 n0 v U'.heap L ∧ FrameEnd U o U' L ({ frames := 0, cells := 0, slots := 0, locals := 0 } : Room).cells ({ frames := 0, cells := 0, slots := 0, locals := 0 } : Room).slots) := by
  refine MetFree.of_bodySF pf_17 hisR ?_
  intro p e s m args below meth c s₁ Bd hml0 hP hK
  obtain ⟨rfl, hZ, hhE⟩ := hP
  have hx := Bd.exec
  have hby := Bd.bytes
  have hml : c.maxLocals = 3 := hml0
  have hown : s.vm.findClass "com/example/equitide/equitide/policy/backfilling/PlannedEnds" = some m.cls := findClass_of_methodNamed Bd.named
  have hnm := (name_of_methodNamed Bd.named Bd.method).1
  have X0 : Stand p l e ({ frames := 0, cells := 0, slots := 0, locals := 0 } : Room) s m #[(.ref a), (.int (1 : Int32)), (.int (0 : Int32))] below meth c s₁ [] 0 0 := Stand.of_body Bd
  have e0 : s₁.heap = h0 := by rw [← hhE, Bd.state]; rfl
  have N0 := Fr.nil n0
  show own_Go p e below (own_Post s (Q88 Z a a1_ a2_ a3_ a4_ a5_ a6_ a7_ a8_ a9_ a10_ a11_ va vb vp h0 n0) ({ frames := 0, cells := 0, slots := 0, locals := 0 } : Room).cells ({ frames := 0, cells := 0, slots := 0, locals := 0 } : Room).slots) (s₁.setTop (entryFrame m #[(.ref a), (.int (1 : Int32)), (.int (0 : Int32))] 3))
  rw [ef_rm88]
  generalize hG : own_Post s (Q88 Z a a1_ a2_ a3_ a4_ a5_ a6_ a7_ a8_ a9_ a10_ a11_ va vb vp h0 n0) ({ frames := 0, cells := 0, slots := 0, locals := 0 } : Room).cells ({ frames := 0, cells := 0, slots := 0, locals := 0 } : Room).slots = G
  obtain ⟨o1, o2, o3, o4, o5, o6, o7, o8, o9, o10, o11⟩ := id hord
  obtain ⟨E0, F0_0, F1_0, F2_0, F3_0, F4_0, F5_0, F6_0, F7_0, F8_0, F9_0, F10_0, F11_0, F12_0, F13_0, V0_0, V1_0, V2_0, V3_0, V4_0, V5_0, V6_0, V7_0, V8_0, V9_0, V10_0⟩ := B
  refine own_aloadN X0 hx (hb hby d17_0) rfl rfl 1 rfl ?_
  refine own_getF X0 hx hZ hown (own_w hw 40 rfl) Via.refl e0 F11_0 (hb hby d17_1) 4 rfl (fun T2680 X2680 e2680 => ?_)
  refine own_iloadN X2680 hx (hb hby d17_4) rfl 5 rfl ?_
  refine own_laload X2680 hx hZ e2680 V8_0 1 rfl vb rfl (hb hby d17_5) 6 rfl ?_
  refine own_aloadN X2680 hx (hb hby d17_6) rfl rfl 7 rfl ?_
  refine own_getF X2680 hx hZ hown (own_w hw 40 rfl) Via.refl e2680 F11_0 (hb hby d17_7) 10 rfl (fun T2681 X2681 e2681 => ?_)
  refine own_iloadN X2681 hx (hb hby d17_10) rfl 11 rfl ?_
  refine own_laload X2681 hx hZ e2681 V8_0 0 rfl va rfl (hb hby d17_11) 12 rfl ?_
  refine own_lcmp X2681 hx (hb hby d17_12) 13 rfl ?_
  refine own_ifN X2681 hx (hb hby d17_13) (own_neL (own_lne hc)).1 16 rfl ?_
  refine own_aloadN X2681 hx (hb hby d17_16) rfl rfl 17 rfl ?_
  refine own_getF X2681 hx hZ hown (own_w hw 40 rfl) Via.refl e2681 F11_0 (hb hby d17_17) 20 rfl (fun T2682 X2682 e2682 => ?_)
  refine own_iloadN X2682 hx (hb hby d17_20) rfl 21 rfl ?_
  refine own_laload X2682 hx hZ e2682 V8_0 1 rfl vb rfl (hb hby d17_21) 22 rfl ?_
  refine own_aloadN X2682 hx (hb hby d17_22) rfl rfl 23 rfl ?_
  refine own_getF X2682 hx hZ hown (own_w hw 40 rfl) Via.refl e2682 F11_0 (hb hby d17_23) 26 rfl (fun T2683 X2683 e2683 => ?_)
  refine own_iloadN X2683 hx (hb hby d17_26) rfl 27 rfl ?_
  refine own_laload X2683 hx hZ e2683 V8_0 0 rfl va rfl (hb hby d17_27) 28 rfl ?_
  refine own_lcmp X2683 hx (hb hby d17_28) 29 rfl ?_
  refine own_ifN X2683 hx (hb hby d17_29) (own_ltL hc).2 32 rfl ?_
  refine own_iconst X2683 hx (hb hby d17_32) (1 : Int32) rfl 33 rfl ?_
  refine own_goto X2683 hx (hb hby d17_33) 50 ⟨by decide, by decide⟩ ?_
  refine own_nreturn X2683 hx Bd.notSynchronized hG Bd.returns (by simp) (hb hby d17_50) (by decide) (by decide) ?_
  rw [e2683]
  exact ⟨rfl, N0, rfl⟩
def Q89 (Z : State) (a a1_ a2_ a3_ a4_ a5_ a6_ a7_ a8_ a9_ a10_ a11_ : Addr) (va vb vp : Int64) (h0 : Heap) (n0 : Nat) (v : Option Value) (h : Heap) (L : List Loc) : Prop := v = some (.int (0 : Int32)) ∧ Fr n0 L ∧ h = h0
theorem ef_rm89 (m : MethodId) (x0 : Addr) (x1 : Int32) (x2 : Int32) : entryFrame m #[(.ref x0), (.int x1), (.int x2)] 3 = mkF m 0 #[.val (.ref x0), .val (.int x1), .val (.int x2)] [] := by first | (simp [entryFrame, mkF, argsToLocals, Value.category, maxLocals]; done) | rfl
set_option maxRecDepth 65536 in
set_option maxHeartbeats 40000000 in
theorem rm89 (l : Launch) (Z : State) (a0 : Array Value) (hw : ∀ d ∈ tables_1, d.before a0 Z = true) (ws : List Jvm.Cond) (a a1_ a2_ a3_ a4_ a5_ a6_ a7_ a8_ a9_ a10_ a11_ : Addr) (va vb vp : Int64) (h0 : Heap) (n0 : Nat) (Z0 : n0 ≤ h0.size) (ga : n0 ≤ a) (hord : own_Or a a1_ a2_ a3_ a4_ a5_ a6_ a7_ a8_ a9_ a10_ a11_) (B : own_PE Z h0 a a1_ a2_ a3_ a4_ a5_ a6_ a7_ a8_ a9_ a10_ a11_ (0 : Int32) (0 : Int32) (2 : Int32) ((List.replicate 127 (0 : Int32)).set 0 (0 : Int32)) ((List.replicate 127 (0 : Int32)).set 0 (0 : Int32)) [(0 : Int32), (1 : Int32)] [(1 : Int32), (0 : Int32)] [(1 : Int32), (-1 : Int32)] [(-1 : Int32), (-1 : Int32)] [(2 : Int32), (1 : Int32)] [va, vb] [vp, vp] [(((((0 : Int64) + vp) + (0 : Int64)) + vp) + (0 : Int64)), (((0 : Int64) + vp) + (0 : Int64))]) (hc : vb < va) :
    MetFree l own_y17 (head1 (Jvm.Cond.code own_y17 prog_66_method_9_code 3 (some .boolean) :: ws) ({ frames := 0, cells := 0, slots := 0, locals := 0 } : Room)) (fun aR U => aR = #[(.ref a), (.int (0 : Int32)), (.int (0 : Int32))] ∧ Z.Warmed39 U.vm ∧ U.heap = h0) (fun _ _ _ _ _ => True) (fun _ U o U' => ∃ v L, o = .returned v ∧ Q89 Z a a1_ a2_ a3_ a4_ a5_ a6_ a7_ a8_ a9_ a10_ a11_ va vb vp h0 n0 v U'.heap L ∧ FrameEnd U o U' L ({ frames := 0, cells := 0, slots := 0, locals := 0 } : Room).cells ({ frames := 0, cells := 0, slots := 0, locals := 0 } : Room).slots) := by
  refine MetFree.of_bodySF pf_17 hisR ?_
  intro p e s m args below meth c s₁ Bd hml0 hP hK
  obtain ⟨rfl, hZ, hhE⟩ := hP
  have hx := Bd.exec
  have hby := Bd.bytes
  have hml : c.maxLocals = 3 := hml0
  have hown : s.vm.findClass "com/example/equitide/equitide/policy/backfilling/PlannedEnds" = some m.cls := findClass_of_methodNamed Bd.named
  have hnm := (name_of_methodNamed Bd.named Bd.method).1
  have X0 : Stand p l e ({ frames := 0, cells := 0, slots := 0, locals := 0 } : Room) s m #[(.ref a), (.int (0 : Int32)), (.int (0 : Int32))] below meth c s₁ [] 0 0 := Stand.of_body Bd
  have e0 : s₁.heap = h0 := by rw [← hhE, Bd.state]; rfl
  have N0 := Fr.nil n0
  show own_Go p e below (own_Post s (Q89 Z a a1_ a2_ a3_ a4_ a5_ a6_ a7_ a8_ a9_ a10_ a11_ va vb vp h0 n0) ({ frames := 0, cells := 0, slots := 0, locals := 0 } : Room).cells ({ frames := 0, cells := 0, slots := 0, locals := 0 } : Room).slots) (s₁.setTop (entryFrame m #[(.ref a), (.int (0 : Int32)), (.int (0 : Int32))] 3))
  rw [ef_rm89]
  generalize hG : own_Post s (Q89 Z a a1_ a2_ a3_ a4_ a5_ a6_ a7_ a8_ a9_ a10_ a11_ va vb vp h0 n0) ({ frames := 0, cells := 0, slots := 0, locals := 0 } : Room).cells ({ frames := 0, cells := 0, slots := 0, locals := 0 } : Room).slots = G
  obtain ⟨o1, o2, o3, o4, o5, o6, o7, o8, o9, o10, o11⟩ := id hord
  obtain ⟨E0, F0_0, F1_0, F2_0, F3_0, F4_0, F5_0, F6_0, F7_0, F8_0, F9_0, F10_0, F11_0, F12_0, F13_0, V0_0, V1_0, V2_0, V3_0, V4_0, V5_0, V6_0, V7_0, V8_0, V9_0, V10_0⟩ := B
  refine own_aloadN X0 hx (hb hby d17_0) rfl rfl 1 rfl ?_
  refine own_getF X0 hx hZ hown (own_w hw 40 rfl) Via.refl e0 F11_0 (hb hby d17_1) 4 rfl (fun T2686 X2686 e2686 => ?_)
  refine own_iloadN X2686 hx (hb hby d17_4) rfl 5 rfl ?_
  refine own_laload X2686 hx hZ e2686 V8_0 0 rfl va rfl (hb hby d17_5) 6 rfl ?_
  refine own_aloadN X2686 hx (hb hby d17_6) rfl rfl 7 rfl ?_
  refine own_getF X2686 hx hZ hown (own_w hw 40 rfl) Via.refl e2686 F11_0 (hb hby d17_7) 10 rfl (fun T2687 X2687 e2687 => ?_)
  refine own_iloadN X2687 hx (hb hby d17_10) rfl 11 rfl ?_
  refine own_laload X2687 hx hZ e2687 V8_0 0 rfl va rfl (hb hby d17_11) 12 rfl ?_
  refine own_lcmp X2687 hx (hb hby d17_12) 13 rfl ?_
  refine own_ifY X2687 hx (hb hby d17_13) (own_eqL rfl).1 40 ⟨by decide, by decide⟩ ?_
  refine own_iloadN X2687 hx (hb hby d17_40) rfl 41 rfl ?_
  refine own_iloadN X2687 hx (hb hby d17_41) rfl 42 rfl ?_
  refine own_icmpY X2687 hx (hb hby d17_42) (flt (by decide)).2.1 49 ⟨by decide, by decide⟩ ?_
  refine own_iconst X2687 hx (hb hby d17_49) (0 : Int32) rfl 50 rfl ?_
  refine own_nreturn X2687 hx Bd.notSynchronized hG Bd.returns (by simp) (hb hby d17_50) (by decide) (by decide) ?_
  rw [e2687]
  exact ⟨rfl, N0, rfl⟩
def Q90 (Z : State) (a a1_ a2_ a3_ a4_ a5_ a6_ a7_ a8_ a9_ a10_ a11_ : Addr) (va vb vp : Int64) (h0 : Heap) (n0 : Nat) (v : Option Value) (h : Heap) (L : List Loc) : Prop := v = some (.int (0 : Int32)) ∧ Fr n0 L ∧ h = h0
theorem ef_rm90 (m : MethodId) (x0 : Addr) (x1 : Int32) (x2 : Int32) : entryFrame m #[(.ref x0), (.int x1), (.int x2)] 3 = mkF m 0 #[.val (.ref x0), .val (.int x1), .val (.int x2)] [] := by first | (simp [entryFrame, mkF, argsToLocals, Value.category, maxLocals]; done) | rfl
set_option maxRecDepth 65536 in
set_option maxHeartbeats 40000000 in
theorem rm90 (l : Launch) (Z : State) (a0 : Array Value) (hw : ∀ d ∈ tables_1, d.before a0 Z = true) (ws : List Jvm.Cond) (a a1_ a2_ a3_ a4_ a5_ a6_ a7_ a8_ a9_ a10_ a11_ : Addr) (va vb vp : Int64) (h0 : Heap) (n0 : Nat) (Z0 : n0 ≤ h0.size) (ga : n0 ≤ a) (hord : own_Or a a1_ a2_ a3_ a4_ a5_ a6_ a7_ a8_ a9_ a10_ a11_) (B : own_PE Z h0 a a1_ a2_ a3_ a4_ a5_ a6_ a7_ a8_ a9_ a10_ a11_ (0 : Int32) (0 : Int32) (2 : Int32) ((List.replicate 127 (0 : Int32)).set 0 (0 : Int32)) ((List.replicate 127 (0 : Int32)).set 0 (0 : Int32)) [(0 : Int32), (1 : Int32)] [(1 : Int32), (0 : Int32)] [(1 : Int32), (-1 : Int32)] [(-1 : Int32), (-1 : Int32)] [(2 : Int32), (1 : Int32)] [va, vb] [vp, vp] [(((((0 : Int64) + vp) + (0 : Int64)) + vp) + (0 : Int64)), (((0 : Int64) + vp) + (0 : Int64))]) (hc : vb < va) :
    MetFree l own_y17 (head1 (Jvm.Cond.code own_y17 prog_66_method_9_code 3 (some .boolean) :: ws) ({ frames := 0, cells := 0, slots := 0, locals := 0 } : Room)) (fun aR U => aR = #[(.ref a), (.int (1 : Int32)), (.int (1 : Int32))] ∧ Z.Warmed39 U.vm ∧ U.heap = h0) (fun _ _ _ _ _ => True) (fun _ U o U' => ∃ v L, o = .returned v ∧ Q90 Z a a1_ a2_ a3_ a4_ a5_ a6_ a7_ a8_ a9_ a10_ a11_ va vb vp h0 n0 v U'.heap L ∧ FrameEnd U o U' L ({ frames := 0, cells := 0, slots := 0, locals := 0 } : Room).cells ({ frames := 0, cells := 0, slots := 0, locals := 0 } : Room).slots) := by
  refine MetFree.of_bodySF pf_17 hisR ?_
  intro p e s m args below meth c s₁ Bd hml0 hP hK
  obtain ⟨rfl, hZ, hhE⟩ := hP
  have hx := Bd.exec
  have hby := Bd.bytes
  have hml : c.maxLocals = 3 := hml0
  have hown : s.vm.findClass "com/example/equitide/equitide/policy/backfilling/PlannedEnds" = some m.cls := findClass_of_methodNamed Bd.named
  have hnm := (name_of_methodNamed Bd.named Bd.method).1
  have X0 : Stand p l e ({ frames := 0, cells := 0, slots := 0, locals := 0 } : Room) s m #[(.ref a), (.int (1 : Int32)), (.int (1 : Int32))] below meth c s₁ [] 0 0 := Stand.of_body Bd
  have e0 : s₁.heap = h0 := by rw [← hhE, Bd.state]; rfl
  have N0 := Fr.nil n0
  show own_Go p e below (own_Post s (Q90 Z a a1_ a2_ a3_ a4_ a5_ a6_ a7_ a8_ a9_ a10_ a11_ va vb vp h0 n0) ({ frames := 0, cells := 0, slots := 0, locals := 0 } : Room).cells ({ frames := 0, cells := 0, slots := 0, locals := 0 } : Room).slots) (s₁.setTop (entryFrame m #[(.ref a), (.int (1 : Int32)), (.int (1 : Int32))] 3))
  rw [ef_rm90]
  generalize hG : own_Post s (Q90 Z a a1_ a2_ a3_ a4_ a5_ a6_ a7_ a8_ a9_ a10_ a11_ va vb vp h0 n0) ({ frames := 0, cells := 0, slots := 0, locals := 0 } : Room).cells ({ frames := 0, cells := 0, slots := 0, locals := 0 } : Room).slots = G
  obtain ⟨o1, o2, o3, o4, o5, o6, o7, o8, o9, o10, o11⟩ := id hord
  obtain ⟨E0, F0_0, F1_0, F2_0, F3_0, F4_0, F5_0, F6_0, F7_0, F8_0, F9_0, F10_0, F11_0, F12_0, F13_0, V0_0, V1_0, V2_0, V3_0, V4_0, V5_0, V6_0, V7_0, V8_0, V9_0, V10_0⟩ := B
  refine own_aloadN X0 hx (hb hby d17_0) rfl rfl 1 rfl ?_
  refine own_getF X0 hx hZ hown (own_w hw 40 rfl) Via.refl e0 F11_0 (hb hby d17_1) 4 rfl (fun T2690 X2690 e2690 => ?_)
  refine own_iloadN X2690 hx (hb hby d17_4) rfl 5 rfl ?_
  refine own_laload X2690 hx hZ e2690 V8_0 1 rfl vb rfl (hb hby d17_5) 6 rfl ?_
  refine own_aloadN X2690 hx (hb hby d17_6) rfl rfl 7 rfl ?_
  refine own_getF X2690 hx hZ hown (own_w hw 40 rfl) Via.refl e2690 F11_0 (hb hby d17_7) 10 rfl (fun T2691 X2691 e2691 => ?_)
  refine own_iloadN X2691 hx (hb hby d17_10) rfl 11 rfl ?_
  refine own_laload X2691 hx hZ e2691 V8_0 1 rfl vb rfl (hb hby d17_11) 12 rfl ?_
  refine own_lcmp X2691 hx (hb hby d17_12) 13 rfl ?_
  refine own_ifY X2691 hx (hb hby d17_13) (own_eqL rfl).1 40 ⟨by decide, by decide⟩ ?_
  refine own_iloadN X2691 hx (hb hby d17_40) rfl 41 rfl ?_
  refine own_iloadN X2691 hx (hb hby d17_41) rfl 42 rfl ?_
  refine own_icmpY X2691 hx (hb hby d17_42) (flt (by decide)).2.1 49 ⟨by decide, by decide⟩ ?_
  refine own_iconst X2691 hx (hb hby d17_49) (0 : Int32) rfl 50 rfl ?_
  refine own_nreturn X2691 hx Bd.notSynchronized hG Bd.returns (by simp) (hb hby d17_50) (by decide) (by decide) ?_
  rw [e2691]
  exact ⟨rfl, N0, rfl⟩
def Q0 (h0 : Heap) (n0 : Nat) (v : Option Value) (h : Heap) (L : List Loc) : Prop := v = some (.int 1) ∧ Fr n0 L
theorem ef_rm0 (m : MethodId) (x0 : Int64) (x1 : Int64) (x2 : Int64) : entryFrame m #[(.long x0), (.long x1), (.long x2)] maxLocals = mkF m 0 #[.val (.long x0), .second, .val (.long x1), .second, .val (.long x2), .second, .unset, .unset, .unset, .unset, .unset, .unset, .unset] [] := by first | (simp [entryFrame, mkF, argsToLocals, Value.category, maxLocals]; done) | rfl
set_option maxRecDepth 65536 in
set_option maxHeartbeats 40000000 in
theorem rm0 (l : Launch) (Z : State) (a0 : Array Value) (hw : ∀ d ∈ tables_1, d.before a0 Z = true) (ws : List Jvm.Cond) (va vb vp : Int64) (h0 : Heap) (n0 : Nat) (Z0 : n0 ≤ h0.size) :
    MetFree l x (head1 (Jvm.Cond.code x code maxLocals ret :: ws) room_1) (fun aR U => aR = #[(.long va), (.long vb), (.long vp)] ∧ Z.Warmed39 U.vm ∧ U.heap = h0) (fun _ _ _ _ _ => True) (fun _ U o U' => ∃ v L, o = .returned v ∧ Q0 h0 n0 v U'.heap L ∧ FrameEnd U o U' L room_1.cells room_1.slots) := by
  refine MetFree.of_bodySF (plainFor_of_name pn_0) hisR ?_
  intro p e s m args below meth c s₁ Bd hml0 hP hK
  obtain ⟨rfl, hZ, hhE⟩ := hP
  have hx := Bd.exec
  have hby := Bd.bytes
  have hml : c.maxLocals = 13 := hml0
  have hown : s.vm.findClass "com/example/equitide/equitide/policy/backfilling/PlannedEndsBeforePinLaw" = some m.cls := findClass_of_methodNamed Bd.named
  have hnm := (name_of_methodNamed Bd.named Bd.method).1
  have X0 : Stand p l e room_1 s m #[(.long va), (.long vb), (.long vp)] below meth c s₁ [] 0 0 := Stand.of_body Bd
  have e0 : s₁.heap = h0 := by rw [← hhE, Bd.state]; rfl
  have N0 := Fr.nil n0
  show own_Go p e below (own_Post s (Q0 h0 n0) room_1.cells room_1.slots) (s₁.setTop (entryFrame m #[(.long va), (.long vb), (.long vp)] maxLocals))
  rw [ef_rm0]
  generalize hG : own_Post s (Q0 h0 n0) room_1.cells room_1.slots = G
  refine own_newO X0 hx hZ hown (own_w hw 0 rfl) (own_w hw 1 rfl) (own_w hw 2 rfl) e0 (hb hby at_0) (by decide) (by decide) 3 rfl (fun T738 h738 a738 g738 X738 e738 E738 A738 D738 => ?_)
  have ge739 : n0 ≤ a738 := by rw [g738]; exact Z0
  have Z740 : n0 ≤ h738.size := Nat.le_trans Z0 E738.1
  have F741 : Fld Z h738 a738 "com/example/equitide/equitide/policy/backfilling/AvlTree" "root" "I" (.int (0 : Int32)) := D738 (Or.inl (own_w hw 15 rfl)) (ty := .int) (by decide)
  have F742 : Fld Z h738 a738 "com/example/equitide/equitide/policy/backfilling/AvlTree" "path" "[I" .null := D738 (Or.inr (own_w hw 18 rfl)) (ty := (.array .int)) (by decide)
  have F743 : Fld Z h738 a738 "com/example/equitide/equitide/policy/backfilling/AvlTree" "sides" "[I" .null := D738 (Or.inr (own_w hw 20 rfl)) (ty := (.array .int)) (by decide)
  have F744 : Fld Z h738 a738 "com/example/equitide/equitide/policy/backfilling/AvlTree" "slotOf" "[I" .null := D738 (Or.inr (own_w hw 22 rfl)) (ty := (.array .int)) (by decide)
  have F745 : Fld Z h738 a738 "com/example/equitide/equitide/policy/backfilling/AvlTree" "unusedSlots" "[I" .null := D738 (Or.inr (own_w hw 24 rfl)) (ty := (.array .int)) (by decide)
  have F746 : Fld Z h738 a738 "com/example/equitide/equitide/policy/backfilling/AvlTree" "unused" "I" (.int (0 : Int32)) := D738 (Or.inl (own_w hw 26 rfl)) (ty := .int) (by decide)
  have F747 : Fld Z h738 a738 "com/example/equitide/equitide/policy/backfilling/AvlTree" "left" "[I" .null := D738 (Or.inr (own_w hw 28 rfl)) (ty := (.array .int)) (by decide)
  have F748 : Fld Z h738 a738 "com/example/equitide/equitide/policy/backfilling/AvlTree" "right" "[I" .null := D738 (Or.inr (own_w hw 30 rfl)) (ty := (.array .int)) (by decide)
  have F749 : Fld Z h738 a738 "com/example/equitide/equitide/policy/backfilling/AvlTree" "children" "[[I" .null := D738 (Or.inr (own_w hw 35 rfl)) (ty := (.array (.array .int))) (by decide)
  have F750 : Fld Z h738 a738 "com/example/equitide/equitide/policy/backfilling/AvlTree" "height" "[B" .null := D738 (Or.inr (own_w hw 38 rfl)) (ty := (.array .byte)) (by decide)
  have F751 : Fld Z h738 a738 "com/example/equitide/equitide/policy/backfilling/PlannedEnds" "plannedEnd" "[J" .null := D738 (Or.inr (own_w hw 41 rfl)) (ty := (.array .long)) (by decide)
  have F752 : Fld Z h738 a738 "com/example/equitide/equitide/policy/backfilling/PlannedEnds" "processors" "[J" .null := D738 (Or.inr (own_w hw 43 rfl)) (ty := (.array .long)) (by decide)
  have F753 : Fld Z h738 a738 "com/example/equitide/equitide/policy/backfilling/PlannedEnds" "below" "[J" .null := D738 (Or.inr (own_w hw 45 rfl)) (ty := (.array .long)) (by decide)
  have F754 : Fld Z h738 a738 "com/example/equitide/equitide/policy/backfilling/AvlTree" "held" "I" (.int (0 : Int32)) := D738 (Or.inl (own_w hw 69 rfl)) (ty := .int) (by decide)
  refine own_dup X738 hx (hb hby at_3) rfl 4 rfl ?_
  refine own_iconst X738 hx (hb hby at_4) (2 : Int32) rfl 5 rfl ?_
  refine own_iconst X738 hx (hb hby at_5) (2 : Int32) rfl 6 rfl ?_
  refine own_callI X738 hx hZ rfl hown (own_w hw 3 rfl) (own_w hw 4 rfl) (own_w hw 2 rfl) (own_w hw 5 rfl) (by decide) e738 (rmP l Z a0 hw [] a738 h738 n0 Z740 ge739 A738 F741 F746 F754 F742 F743 F744 F745 F747 F748 F749 F750 F751 F752 F753) (by rw [hml]; rfl) pd_0 (argsL := [(.int (2 : Int32)), (.int (2 : Int32))]) rfl (rest := [(.ref a738)]) rfl (hb hby at_6) 1 (Nat.le_of_eq rfl) (by decide) (by decide) (by decide) (by decide) 9 rfl (fun T755 L755 v755 X755 hQ755 => ?_)
  obtain ⟨a1_, a2_, a3_, a4_, a5_, a6_, a7_, a8_, a9_, a10_, a11_, rfl, N755, Z755, hord, B755⟩ := hQ755
  have N756 := Fr.app N0 N755
  have ga := ge739
  skip
  obtain ⟨E755, F0_755, F1_755, F2_755, F3_755, F4_755, F5_755, F6_755, F7_755, F8_755, F9_755, F10_755, F11_755, F12_755, F13_755, V0_755, V1_755, V2_755, V3_755, V4_755, V5_755, V6_755, V7_755, V8_755, V9_755, V10_755⟩ := B755
  show own_Go p e below G (T755.setTop (mkF m 9 #[.val (.long va), .second, .val (.long vb), .second, .val (.long vp), .second, .unset, .unset, .unset, .unset, .unset, .unset, .unset] [(.ref a738)]))
  refine own_astore X755 hx (hb hby at_9) rfl #[.val (.long va), .second, .val (.long vb), .second, .val (.long vp), .second, .val (.ref a738), .unset, .unset, .unset, .unset, .unset, .unset] rfl 11 rfl ?_
  refine own_aload X755 hx (hb hby at_11) rfl rfl 13 rfl ?_
  refine own_iconst X755 hx (hb hby at_13) (0 : Int32) rfl 14 rfl ?_
  refine own_lloadN X755 hx (hb hby at_14) rfl 15 rfl ?_
  refine own_lload X755 hx (hb hby at_15) rfl 17 rfl ?_
  refine own_callV X755 hx hZ hown (own_w hw 46 rfl) (own_w hw 47 rfl) (own_w hw 49 rfl) (notFace_of_selects (args := #[]) (mvT hZ (own_w hw 49 rfl))) (own_w hw 48 rfl) (own_w hw 2 rfl) (own_w hw 50 rfl) (by decide) (rfl : T755.heap = T755.heap) E755 (rm1 l Z a0 hw [] a738 a1_ a2_ a3_ a4_ a5_ a6_ a7_ a8_ a9_ a10_ a11_ va vb vp T755.heap n0 Z755 ga hord ⟨E755, F0_755, F1_755, F2_755, F3_755, F4_755, F5_755, F6_755, F7_755, F8_755, F9_755, F10_755, F11_755, F12_755, F13_755, V0_755, V1_755, V2_755, V3_755, V4_755, V5_755, V6_755, V7_755, V8_755, V9_755, V10_755⟩ ) (by rw [hml]; rfl) pd_7 (argsL := [(.int (0 : Int32)), (.long va), (.long vp)]) rfl (rest := []) rfl (hb hby at_17) 0 (Nat.le_of_eq rfl) (by decide) (by decide) (by decide) (by decide) 20 rfl (fun T1084 L1084 v1084 X1084 hQ1084 => ?_)
  obtain ⟨rfl, N1084, Z1084, B1084⟩ := hQ1084
  have N1085 := Fr.app N756 N1084
  obtain ⟨E1084, F0_1084, F1_1084, F2_1084, F3_1084, F4_1084, F5_1084, F6_1084, F7_1084, F8_1084, F9_1084, F10_1084, F11_1084, F12_1084, F13_1084, V0_1084, V1_1084, V2_1084, V3_1084, V4_1084, V5_1084, V6_1084, V7_1084, V8_1084, V9_1084, V10_1084⟩ := B1084
  show own_Go p e below G (T1084.setTop (mkF m 20 #[.val (.long va), .second, .val (.long vb), .second, .val (.long vp), .second, .val (.ref a738), .unset, .unset, .unset, .unset, .unset, .unset] []))
  refine own_aload X1084 hx (hb hby at_20) rfl rfl 22 rfl ?_
  refine own_iconst X1084 hx (hb hby at_22) (1 : Int32) rfl 23 rfl ?_
  refine own_lloadN X1084 hx (hb hby at_23) rfl 24 rfl ?_
  refine own_lload X1084 hx (hb hby at_24) rfl 26 rfl ?_
  have htri : va < vb ∨ va = vb ∨ vb < va := by
    by_cases h1 : va < vb
    · exact Or.inl h1
    · by_cases h2 : vb < va
      · exact Or.inr (Or.inr h2)
      · exact Or.inr (Or.inl (own_tri h1 h2))
  rcases htri with hc | hc | hc
  ·
    refine own_callV X1084 hx hZ hown (own_w hw 46 rfl) (own_w hw 47 rfl) (own_w hw 49 rfl) (notFace_of_selects (args := #[]) (mvT hZ (own_w hw 49 rfl))) (own_w hw 48 rfl) (own_w hw 2 rfl) (own_w hw 50 rfl) (by decide) (rfl : T1084.heap = T1084.heap) E1084 (rm13 l Z a0 hw [] a738 a1_ a2_ a3_ a4_ a5_ a6_ a7_ a8_ a9_ a10_ a11_ va vb vp T1084.heap n0 Z1084 ga hord ⟨E1084, F0_1084, F1_1084, F2_1084, F3_1084, F4_1084, F5_1084, F6_1084, F7_1084, F8_1084, F9_1084, F10_1084, F11_1084, F12_1084, F13_1084, V0_1084, V1_1084, V2_1084, V3_1084, V4_1084, V5_1084, V6_1084, V7_1084, V8_1084, V9_1084, V10_1084⟩ hc) (by rw [hml]; rfl) pd_7 (argsL := [(.int (1 : Int32)), (.long vb), (.long vp)]) rfl (rest := []) rfl (hb hby at_26) 0 (Nat.le_of_eq rfl) (by decide) (by decide) (by decide) (by decide) 29 rfl (fun T1602 L1602 v1602 X1602 hQ1602 => ?_)
    obtain ⟨rfl, N1602, Z1602, B1602⟩ := hQ1602
    have N1603 := Fr.app N1085 N1602
    obtain ⟨E1602, F0_1602, F1_1602, F2_1602, F3_1602, F4_1602, F5_1602, F6_1602, F7_1602, F8_1602, F9_1602, F10_1602, F11_1602, F12_1602, F13_1602, V0_1602, V1_1602, V2_1602, V3_1602, V4_1602, V5_1602, V6_1602, V7_1602, V8_1602, V9_1602, V10_1602⟩ := B1602
    show own_Go p e below G (T1602.setTop (mkF m 29 #[.val (.long va), .second, .val (.long vb), .second, .val (.long vp), .second, .val (.ref a738), .unset, .unset, .unset, .unset, .unset, .unset] []))
    refine own_aload X1602 hx (hb hby at_29) rfl rfl 31 rfl ?_
    refine own_iconst X1602 hx (hb hby at_31) (0 : Int32) rfl 32 rfl ?_
    refine own_iconst X1602 hx (hb hby at_32) (1 : Int32) rfl 33 rfl ?_
    refine own_callV X1602 hx hZ hown (own_w hw 120 rfl) (own_w hw 121 rfl) (own_w hw 122 rfl) (notFace_of_selects (args := #[]) (mvT hZ (own_w hw 122 rfl))) (own_w hw 114 rfl) (own_w hw 2 rfl) (own_w hw 115 rfl) (by decide) (rfl : T1602.heap = T1602.heap) E1602 (rm35 l Z a0 hw [] a738 a1_ a2_ a3_ a4_ a5_ a6_ a7_ a8_ a9_ a10_ a11_ va vb vp T1602.heap n0 Z1602 ga hord ⟨E1602, F0_1602, F1_1602, F2_1602, F3_1602, F4_1602, F5_1602, F6_1602, F7_1602, F8_1602, F9_1602, F10_1602, F11_1602, F12_1602, F13_1602, V0_1602, V1_1602, V2_1602, V3_1602, V4_1602, V5_1602, V6_1602, V7_1602, V8_1602, V9_1602, V10_1602⟩ hc) (by rw [hml]; rfl) pd_8 (argsL := [(.int (0 : Int32)), (.int (1 : Int32))]) rfl (rest := []) rfl (hb hby at_33) 0 (Nat.le_of_eq rfl) (by decide) (by decide) (by decide) (by decide) 36 rfl (fun T1608 L1608 v1608 X1608 hQ1608 => ?_)
    obtain ⟨rfl, N1608, e1608⟩ := hQ1608
    have N1609 := Fr.app N1603 N1608
    show own_Go p e below G (T1608.setTop (mkF m 36 #[.val (.long va), .second, .val (.long vb), .second, .val (.long vp), .second, .val (.ref a738), .unset, .unset, .unset, .unset, .unset, .unset] [(.int (1 : Int32))]))
    refine own_istore X1608 hx (hb hby at_36) #[.val (.long va), .second, .val (.long vb), .second, .val (.long vp), .second, .val (.ref a738), .val (.int (1 : Int32)), .unset, .unset, .unset, .unset, .unset] rfl 38 rfl ?_
    refine own_aload X1608 hx (hb hby at_38) rfl rfl 40 rfl ?_
    refine own_iconst X1608 hx (hb hby at_40) (1 : Int32) rfl 41 rfl ?_
    refine own_iconst X1608 hx (hb hby at_41) (0 : Int32) rfl 42 rfl ?_
    refine own_callV X1608 hx hZ hown (own_w hw 120 rfl) (own_w hw 121 rfl) (own_w hw 122 rfl) (notFace_of_selects (args := #[]) (mvT hZ (own_w hw 122 rfl))) (own_w hw 114 rfl) (own_w hw 2 rfl) (own_w hw 115 rfl) (by decide) e1608 E1602 (rm36 l Z a0 hw [] a738 a1_ a2_ a3_ a4_ a5_ a6_ a7_ a8_ a9_ a10_ a11_ va vb vp T1602.heap n0 Z1602 ga hord ⟨E1602, F0_1602, F1_1602, F2_1602, F3_1602, F4_1602, F5_1602, F6_1602, F7_1602, F8_1602, F9_1602, F10_1602, F11_1602, F12_1602, F13_1602, V0_1602, V1_1602, V2_1602, V3_1602, V4_1602, V5_1602, V6_1602, V7_1602, V8_1602, V9_1602, V10_1602⟩ hc) (by rw [hml]; rfl) pd_8 (argsL := [(.int (1 : Int32)), (.int (0 : Int32))]) rfl (rest := []) rfl (hb hby at_42) 0 (Nat.le_of_eq rfl) (by decide) (by decide) (by decide) (by decide) 45 rfl (fun T1614 L1614 v1614 X1614 hQ1614 => ?_)
    obtain ⟨rfl, N1614, e1614⟩ := hQ1614
    have N1615 := Fr.app N1609 N1614
    show own_Go p e below G (T1614.setTop (mkF m 45 #[.val (.long va), .second, .val (.long vb), .second, .val (.long vp), .second, .val (.ref a738), .val (.int (1 : Int32)), .unset, .unset, .unset, .unset, .unset] [(.int (0 : Int32))]))
    refine own_istore X1614 hx (hb hby at_45) #[.val (.long va), .second, .val (.long vb), .second, .val (.long vp), .second, .val (.ref a738), .val (.int (1 : Int32)), .val (.int (0 : Int32)), .unset, .unset, .unset, .unset] rfl 47 rfl ?_
    refine own_aload X1614 hx (hb hby at_47) rfl rfl 49 rfl ?_
    refine own_iconst X1614 hx (hb hby at_49) (0 : Int32) rfl 50 rfl ?_
    refine own_iconst X1614 hx (hb hby at_50) (0 : Int32) rfl 51 rfl ?_
    refine own_callV X1614 hx hZ hown (own_w hw 120 rfl) (own_w hw 121 rfl) (own_w hw 122 rfl) (notFace_of_selects (args := #[]) (mvT hZ (own_w hw 122 rfl))) (own_w hw 114 rfl) (own_w hw 2 rfl) (own_w hw 115 rfl) (by decide) e1614 E1602 (rm37 l Z a0 hw [] a738 a1_ a2_ a3_ a4_ a5_ a6_ a7_ a8_ a9_ a10_ a11_ va vb vp T1602.heap n0 Z1602 ga hord ⟨E1602, F0_1602, F1_1602, F2_1602, F3_1602, F4_1602, F5_1602, F6_1602, F7_1602, F8_1602, F9_1602, F10_1602, F11_1602, F12_1602, F13_1602, V0_1602, V1_1602, V2_1602, V3_1602, V4_1602, V5_1602, V6_1602, V7_1602, V8_1602, V9_1602, V10_1602⟩ hc) (by rw [hml]; rfl) pd_8 (argsL := [(.int (0 : Int32)), (.int (0 : Int32))]) rfl (rest := []) rfl (hb hby at_51) 0 (Nat.le_of_eq rfl) (by decide) (by decide) (by decide) (by decide) 54 rfl (fun T1618 L1618 v1618 X1618 hQ1618 => ?_)
    obtain ⟨rfl, N1618, e1618⟩ := hQ1618
    have N1619 := Fr.app N1615 N1618
    show own_Go p e below G (T1618.setTop (mkF m 54 #[.val (.long va), .second, .val (.long vb), .second, .val (.long vp), .second, .val (.ref a738), .val (.int (1 : Int32)), .val (.int (0 : Int32)), .unset, .unset, .unset, .unset] [(.int (0 : Int32))]))
    refine own_istore X1618 hx (hb hby at_54) #[.val (.long va), .second, .val (.long vb), .second, .val (.long vp), .second, .val (.ref a738), .val (.int (1 : Int32)), .val (.int (0 : Int32)), .val (.int (0 : Int32)), .unset, .unset, .unset] rfl 56 rfl ?_
    refine own_aload X1618 hx (hb hby at_56) rfl rfl 58 rfl ?_
    refine own_iconst X1618 hx (hb hby at_58) (1 : Int32) rfl 59 rfl ?_
    refine own_iconst X1618 hx (hb hby at_59) (1 : Int32) rfl 60 rfl ?_
    refine own_callV X1618 hx hZ hown (own_w hw 120 rfl) (own_w hw 121 rfl) (own_w hw 122 rfl) (notFace_of_selects (args := #[]) (mvT hZ (own_w hw 122 rfl))) (own_w hw 114 rfl) (own_w hw 2 rfl) (own_w hw 115 rfl) (by decide) e1618 E1602 (rm38 l Z a0 hw [] a738 a1_ a2_ a3_ a4_ a5_ a6_ a7_ a8_ a9_ a10_ a11_ va vb vp T1602.heap n0 Z1602 ga hord ⟨E1602, F0_1602, F1_1602, F2_1602, F3_1602, F4_1602, F5_1602, F6_1602, F7_1602, F8_1602, F9_1602, F10_1602, F11_1602, F12_1602, F13_1602, V0_1602, V1_1602, V2_1602, V3_1602, V4_1602, V5_1602, V6_1602, V7_1602, V8_1602, V9_1602, V10_1602⟩ hc) (by rw [hml]; rfl) pd_8 (argsL := [(.int (1 : Int32)), (.int (1 : Int32))]) rfl (rest := []) rfl (hb hby at_60) 0 (Nat.le_of_eq rfl) (by decide) (by decide) (by decide) (by decide) 63 rfl (fun T1622 L1622 v1622 X1622 hQ1622 => ?_)
    obtain ⟨rfl, N1622, e1622⟩ := hQ1622
    have N1623 := Fr.app N1619 N1622
    show own_Go p e below G (T1622.setTop (mkF m 63 #[.val (.long va), .second, .val (.long vb), .second, .val (.long vp), .second, .val (.ref a738), .val (.int (1 : Int32)), .val (.int (0 : Int32)), .val (.int (0 : Int32)), .unset, .unset, .unset] [(.int (0 : Int32))]))
    refine own_istore X1622 hx (hb hby at_63) #[.val (.long va), .second, .val (.long vb), .second, .val (.long vp), .second, .val (.ref a738), .val (.int (1 : Int32)), .val (.int (0 : Int32)), .val (.int (0 : Int32)), .val (.int (0 : Int32)), .unset, .unset] rfl 65 rfl ?_
    refine own_lloadN X1622 hx (hb hby at_65) rfl 66 rfl ?_
    refine own_lloadN X1622 hx (hb hby at_66) rfl 67 rfl ?_
    refine own_lcmp X1622 hx (hb hby at_67) 68 rfl ?_
    refine own_ifN X1622 hx (hb hby at_68) (own_ltL hc).2 71 rfl ?_
    refine own_iconst X1622 hx (hb hby at_71) (1 : Int32) rfl 72 rfl ?_
    refine own_istore X1622 hx (hb hby at_72) #[.val (.long va), .second, .val (.long vb), .second, .val (.long vp), .second, .val (.ref a738), .val (.int (1 : Int32)), .val (.int (0 : Int32)), .val (.int (0 : Int32)), .val (.int (0 : Int32)), .val (.int (1 : Int32)), .unset] rfl 74 rfl ?_
    refine own_iconst X1622 hx (hb hby at_74) (0 : Int32) rfl 75 rfl ?_
    refine own_istore X1622 hx (hb hby at_75) #[.val (.long va), .second, .val (.long vb), .second, .val (.long vp), .second, .val (.ref a738), .val (.int (1 : Int32)), .val (.int (0 : Int32)), .val (.int (0 : Int32)), .val (.int (0 : Int32)), .val (.int (1 : Int32)), .val (.int (0 : Int32))] rfl 77 rfl ?_
    refine own_goto X1622 hx (hb hby at_77) 101 ⟨by decide, by decide⟩ ?_
    refine own_iload X1622 hx (hb hby at_101) rfl 103 rfl ?_
    refine own_iload X1622 hx (hb hby at_103) rfl 105 rfl ?_
    refine own_icmpN X1622 hx (hb hby at_105) (teq (by decide)).2 108 rfl ?_
    refine own_iload X1622 hx (hb hby at_108) rfl 110 rfl ?_
    refine own_iload X1622 hx (hb hby at_110) rfl 112 rfl ?_
    refine own_icmpN X1622 hx (hb hby at_112) (teq (by decide)).2 115 rfl ?_
    refine own_iload X1622 hx (hb hby at_115) rfl 117 rfl ?_
    refine own_ifN X1622 hx (hb hby at_117) ((if0 _ _).trans (teq (by decide)).2) 120 rfl ?_
    refine own_iload X1622 hx (hb hby at_120) rfl 122 rfl ?_
    refine own_ifN X1622 hx (hb hby at_122) ((if0 _ _).trans (teq (by decide)).2) 125 rfl ?_
    refine own_iconst X1622 hx (hb hby at_125) (1 : Int32) rfl 126 rfl ?_
    refine own_goto X1622 hx (hb hby at_126) 130 ⟨by decide, by decide⟩ ?_
    refine own_nreturn X1622 hx Bd.notSynchronized hG Bd.returns (by simp) (hb hby at_130) (by decide) (by decide) ?_
    rw [e1622]
    exact ⟨rfl, N1623⟩
  ·
    refine own_callV X1084 hx hZ hown (own_w hw 46 rfl) (own_w hw 47 rfl) (own_w hw 49 rfl) (notFace_of_selects (args := #[]) (mvT hZ (own_w hw 49 rfl))) (own_w hw 48 rfl) (own_w hw 2 rfl) (own_w hw 50 rfl) (by decide) (rfl : T1084.heap = T1084.heap) E1084 (rm39 l Z a0 hw [] a738 a1_ a2_ a3_ a4_ a5_ a6_ a7_ a8_ a9_ a10_ a11_ va vb vp T1084.heap n0 Z1084 ga hord ⟨E1084, F0_1084, F1_1084, F2_1084, F3_1084, F4_1084, F5_1084, F6_1084, F7_1084, F8_1084, F9_1084, F10_1084, F11_1084, F12_1084, F13_1084, V0_1084, V1_1084, V2_1084, V3_1084, V4_1084, V5_1084, V6_1084, V7_1084, V8_1084, V9_1084, V10_1084⟩ hc) (by rw [hml]; rfl) pd_7 (argsL := [(.int (1 : Int32)), (.long vb), (.long vp)]) rfl (rest := []) rfl (hb hby at_26) 0 (Nat.le_of_eq rfl) (by decide) (by decide) (by decide) (by decide) 29 rfl (fun T2138 L2138 v2138 X2138 hQ2138 => ?_)
    obtain ⟨rfl, N2138, Z2138, B2138⟩ := hQ2138
    have N2139 := Fr.app N1085 N2138
    obtain ⟨E2138, F0_2138, F1_2138, F2_2138, F3_2138, F4_2138, F5_2138, F6_2138, F7_2138, F8_2138, F9_2138, F10_2138, F11_2138, F12_2138, F13_2138, V0_2138, V1_2138, V2_2138, V3_2138, V4_2138, V5_2138, V6_2138, V7_2138, V8_2138, V9_2138, V10_2138⟩ := B2138
    show own_Go p e below G (T2138.setTop (mkF m 29 #[.val (.long va), .second, .val (.long vb), .second, .val (.long vp), .second, .val (.ref a738), .unset, .unset, .unset, .unset, .unset, .unset] []))
    refine own_aload X2138 hx (hb hby at_29) rfl rfl 31 rfl ?_
    refine own_iconst X2138 hx (hb hby at_31) (0 : Int32) rfl 32 rfl ?_
    refine own_iconst X2138 hx (hb hby at_32) (1 : Int32) rfl 33 rfl ?_
    refine own_callV X2138 hx hZ hown (own_w hw 120 rfl) (own_w hw 121 rfl) (own_w hw 122 rfl) (notFace_of_selects (args := #[]) (mvT hZ (own_w hw 122 rfl))) (own_w hw 114 rfl) (own_w hw 2 rfl) (own_w hw 115 rfl) (by decide) (rfl : T2138.heap = T2138.heap) E2138 (rm61 l Z a0 hw [] a738 a1_ a2_ a3_ a4_ a5_ a6_ a7_ a8_ a9_ a10_ a11_ va vb vp T2138.heap n0 Z2138 ga hord ⟨E2138, F0_2138, F1_2138, F2_2138, F3_2138, F4_2138, F5_2138, F6_2138, F7_2138, F8_2138, F9_2138, F10_2138, F11_2138, F12_2138, F13_2138, V0_2138, V1_2138, V2_2138, V3_2138, V4_2138, V5_2138, V6_2138, V7_2138, V8_2138, V9_2138, V10_2138⟩ hc) (by rw [hml]; rfl) pd_8 (argsL := [(.int (0 : Int32)), (.int (1 : Int32))]) rfl (rest := []) rfl (hb hby at_33) 0 (Nat.le_of_eq rfl) (by decide) (by decide) (by decide) (by decide) 36 rfl (fun T2142 L2142 v2142 X2142 hQ2142 => ?_)
    obtain ⟨rfl, N2142, e2142⟩ := hQ2142
    have N2143 := Fr.app N2139 N2142
    show own_Go p e below G (T2142.setTop (mkF m 36 #[.val (.long va), .second, .val (.long vb), .second, .val (.long vp), .second, .val (.ref a738), .unset, .unset, .unset, .unset, .unset, .unset] [(.int (1 : Int32))]))
    refine own_istore X2142 hx (hb hby at_36) #[.val (.long va), .second, .val (.long vb), .second, .val (.long vp), .second, .val (.ref a738), .val (.int (1 : Int32)), .unset, .unset, .unset, .unset, .unset] rfl 38 rfl ?_
    refine own_aload X2142 hx (hb hby at_38) rfl rfl 40 rfl ?_
    refine own_iconst X2142 hx (hb hby at_40) (1 : Int32) rfl 41 rfl ?_
    refine own_iconst X2142 hx (hb hby at_41) (0 : Int32) rfl 42 rfl ?_
    refine own_callV X2142 hx hZ hown (own_w hw 120 rfl) (own_w hw 121 rfl) (own_w hw 122 rfl) (notFace_of_selects (args := #[]) (mvT hZ (own_w hw 122 rfl))) (own_w hw 114 rfl) (own_w hw 2 rfl) (own_w hw 115 rfl) (by decide) e2142 E2138 (rm62 l Z a0 hw [] a738 a1_ a2_ a3_ a4_ a5_ a6_ a7_ a8_ a9_ a10_ a11_ va vb vp T2138.heap n0 Z2138 ga hord ⟨E2138, F0_2138, F1_2138, F2_2138, F3_2138, F4_2138, F5_2138, F6_2138, F7_2138, F8_2138, F9_2138, F10_2138, F11_2138, F12_2138, F13_2138, V0_2138, V1_2138, V2_2138, V3_2138, V4_2138, V5_2138, V6_2138, V7_2138, V8_2138, V9_2138, V10_2138⟩ hc) (by rw [hml]; rfl) pd_8 (argsL := [(.int (1 : Int32)), (.int (0 : Int32))]) rfl (rest := []) rfl (hb hby at_42) 0 (Nat.le_of_eq rfl) (by decide) (by decide) (by decide) (by decide) 45 rfl (fun T2146 L2146 v2146 X2146 hQ2146 => ?_)
    obtain ⟨rfl, N2146, e2146⟩ := hQ2146
    have N2147 := Fr.app N2143 N2146
    show own_Go p e below G (T2146.setTop (mkF m 45 #[.val (.long va), .second, .val (.long vb), .second, .val (.long vp), .second, .val (.ref a738), .val (.int (1 : Int32)), .unset, .unset, .unset, .unset, .unset] [(.int (0 : Int32))]))
    refine own_istore X2146 hx (hb hby at_45) #[.val (.long va), .second, .val (.long vb), .second, .val (.long vp), .second, .val (.ref a738), .val (.int (1 : Int32)), .val (.int (0 : Int32)), .unset, .unset, .unset, .unset] rfl 47 rfl ?_
    refine own_aload X2146 hx (hb hby at_47) rfl rfl 49 rfl ?_
    refine own_iconst X2146 hx (hb hby at_49) (0 : Int32) rfl 50 rfl ?_
    refine own_iconst X2146 hx (hb hby at_50) (0 : Int32) rfl 51 rfl ?_
    refine own_callV X2146 hx hZ hown (own_w hw 120 rfl) (own_w hw 121 rfl) (own_w hw 122 rfl) (notFace_of_selects (args := #[]) (mvT hZ (own_w hw 122 rfl))) (own_w hw 114 rfl) (own_w hw 2 rfl) (own_w hw 115 rfl) (by decide) e2146 E2138 (rm63 l Z a0 hw [] a738 a1_ a2_ a3_ a4_ a5_ a6_ a7_ a8_ a9_ a10_ a11_ va vb vp T2138.heap n0 Z2138 ga hord ⟨E2138, F0_2138, F1_2138, F2_2138, F3_2138, F4_2138, F5_2138, F6_2138, F7_2138, F8_2138, F9_2138, F10_2138, F11_2138, F12_2138, F13_2138, V0_2138, V1_2138, V2_2138, V3_2138, V4_2138, V5_2138, V6_2138, V7_2138, V8_2138, V9_2138, V10_2138⟩ hc) (by rw [hml]; rfl) pd_8 (argsL := [(.int (0 : Int32)), (.int (0 : Int32))]) rfl (rest := []) rfl (hb hby at_51) 0 (Nat.le_of_eq rfl) (by decide) (by decide) (by decide) (by decide) 54 rfl (fun T2150 L2150 v2150 X2150 hQ2150 => ?_)
    obtain ⟨rfl, N2150, e2150⟩ := hQ2150
    have N2151 := Fr.app N2147 N2150
    show own_Go p e below G (T2150.setTop (mkF m 54 #[.val (.long va), .second, .val (.long vb), .second, .val (.long vp), .second, .val (.ref a738), .val (.int (1 : Int32)), .val (.int (0 : Int32)), .unset, .unset, .unset, .unset] [(.int (0 : Int32))]))
    refine own_istore X2150 hx (hb hby at_54) #[.val (.long va), .second, .val (.long vb), .second, .val (.long vp), .second, .val (.ref a738), .val (.int (1 : Int32)), .val (.int (0 : Int32)), .val (.int (0 : Int32)), .unset, .unset, .unset] rfl 56 rfl ?_
    refine own_aload X2150 hx (hb hby at_56) rfl rfl 58 rfl ?_
    refine own_iconst X2150 hx (hb hby at_58) (1 : Int32) rfl 59 rfl ?_
    refine own_iconst X2150 hx (hb hby at_59) (1 : Int32) rfl 60 rfl ?_
    refine own_callV X2150 hx hZ hown (own_w hw 120 rfl) (own_w hw 121 rfl) (own_w hw 122 rfl) (notFace_of_selects (args := #[]) (mvT hZ (own_w hw 122 rfl))) (own_w hw 114 rfl) (own_w hw 2 rfl) (own_w hw 115 rfl) (by decide) e2150 E2138 (rm64 l Z a0 hw [] a738 a1_ a2_ a3_ a4_ a5_ a6_ a7_ a8_ a9_ a10_ a11_ va vb vp T2138.heap n0 Z2138 ga hord ⟨E2138, F0_2138, F1_2138, F2_2138, F3_2138, F4_2138, F5_2138, F6_2138, F7_2138, F8_2138, F9_2138, F10_2138, F11_2138, F12_2138, F13_2138, V0_2138, V1_2138, V2_2138, V3_2138, V4_2138, V5_2138, V6_2138, V7_2138, V8_2138, V9_2138, V10_2138⟩ hc) (by rw [hml]; rfl) pd_8 (argsL := [(.int (1 : Int32)), (.int (1 : Int32))]) rfl (rest := []) rfl (hb hby at_60) 0 (Nat.le_of_eq rfl) (by decide) (by decide) (by decide) (by decide) 63 rfl (fun T2154 L2154 v2154 X2154 hQ2154 => ?_)
    obtain ⟨rfl, N2154, e2154⟩ := hQ2154
    have N2155 := Fr.app N2151 N2154
    show own_Go p e below G (T2154.setTop (mkF m 63 #[.val (.long va), .second, .val (.long vb), .second, .val (.long vp), .second, .val (.ref a738), .val (.int (1 : Int32)), .val (.int (0 : Int32)), .val (.int (0 : Int32)), .unset, .unset, .unset] [(.int (0 : Int32))]))
    refine own_istore X2154 hx (hb hby at_63) #[.val (.long va), .second, .val (.long vb), .second, .val (.long vp), .second, .val (.ref a738), .val (.int (1 : Int32)), .val (.int (0 : Int32)), .val (.int (0 : Int32)), .val (.int (0 : Int32)), .unset, .unset] rfl 65 rfl ?_
    refine own_lloadN X2154 hx (hb hby at_65) rfl 66 rfl ?_
    refine own_lloadN X2154 hx (hb hby at_66) rfl 67 rfl ?_
    refine own_lcmp X2154 hx (hb hby at_67) 68 rfl ?_
    refine own_ifY X2154 hx (hb hby at_68) (own_nltL (own_eqnl hc)).2 80 ⟨by decide, by decide⟩ ?_
    refine own_lloadN X2154 hx (hb hby at_80) rfl 81 rfl ?_
    refine own_lloadN X2154 hx (hb hby at_81) rfl 82 rfl ?_
    refine own_lcmp X2154 hx (hb hby at_82) 83 rfl ?_
    refine own_ifY X2154 hx (hb hby at_83) (own_ngtL (own_eqnl hc.symm)).2 95 ⟨by decide, by decide⟩ ?_
    refine own_iconst X2154 hx (hb hby at_95) (1 : Int32) rfl 96 rfl ?_
    refine own_istore X2154 hx (hb hby at_96) #[.val (.long va), .second, .val (.long vb), .second, .val (.long vp), .second, .val (.ref a738), .val (.int (1 : Int32)), .val (.int (0 : Int32)), .val (.int (0 : Int32)), .val (.int (0 : Int32)), .val (.int (1 : Int32)), .unset] rfl 98 rfl ?_
    refine own_iconst X2154 hx (hb hby at_98) (0 : Int32) rfl 99 rfl ?_
    refine own_istore X2154 hx (hb hby at_99) #[.val (.long va), .second, .val (.long vb), .second, .val (.long vp), .second, .val (.ref a738), .val (.int (1 : Int32)), .val (.int (0 : Int32)), .val (.int (0 : Int32)), .val (.int (0 : Int32)), .val (.int (1 : Int32)), .val (.int (0 : Int32))] rfl 101 rfl ?_
    refine own_iload X2154 hx (hb hby at_101) rfl 103 rfl ?_
    refine own_iload X2154 hx (hb hby at_103) rfl 105 rfl ?_
    refine own_icmpN X2154 hx (hb hby at_105) (teq (by decide)).2 108 rfl ?_
    refine own_iload X2154 hx (hb hby at_108) rfl 110 rfl ?_
    refine own_iload X2154 hx (hb hby at_110) rfl 112 rfl ?_
    refine own_icmpN X2154 hx (hb hby at_112) (teq (by decide)).2 115 rfl ?_
    refine own_iload X2154 hx (hb hby at_115) rfl 117 rfl ?_
    refine own_ifN X2154 hx (hb hby at_117) ((if0 _ _).trans (teq (by decide)).2) 120 rfl ?_
    refine own_iload X2154 hx (hb hby at_120) rfl 122 rfl ?_
    refine own_ifN X2154 hx (hb hby at_122) ((if0 _ _).trans (teq (by decide)).2) 125 rfl ?_
    refine own_iconst X2154 hx (hb hby at_125) (1 : Int32) rfl 126 rfl ?_
    refine own_goto X2154 hx (hb hby at_126) 130 ⟨by decide, by decide⟩ ?_
    refine own_nreturn X2154 hx Bd.notSynchronized hG Bd.returns (by simp) (hb hby at_130) (by decide) (by decide) ?_
    rw [e2154]
    exact ⟨rfl, N2155⟩
  ·
    refine own_callV X1084 hx hZ hown (own_w hw 46 rfl) (own_w hw 47 rfl) (own_w hw 49 rfl) (notFace_of_selects (args := #[]) (mvT hZ (own_w hw 49 rfl))) (own_w hw 48 rfl) (own_w hw 2 rfl) (own_w hw 50 rfl) (by decide) (rfl : T1084.heap = T1084.heap) E1084 (rm65 l Z a0 hw [] a738 a1_ a2_ a3_ a4_ a5_ a6_ a7_ a8_ a9_ a10_ a11_ va vb vp T1084.heap n0 Z1084 ga hord ⟨E1084, F0_1084, F1_1084, F2_1084, F3_1084, F4_1084, F5_1084, F6_1084, F7_1084, F8_1084, F9_1084, F10_1084, F11_1084, F12_1084, F13_1084, V0_1084, V1_1084, V2_1084, V3_1084, V4_1084, V5_1084, V6_1084, V7_1084, V8_1084, V9_1084, V10_1084⟩ hc) (by rw [hml]; rfl) pd_7 (argsL := [(.int (1 : Int32)), (.long vb), (.long vp)]) rfl (rest := []) rfl (hb hby at_26) 0 (Nat.le_of_eq rfl) (by decide) (by decide) (by decide) (by decide) 29 rfl (fun T2672 L2672 v2672 X2672 hQ2672 => ?_)
    obtain ⟨rfl, N2672, Z2672, B2672⟩ := hQ2672
    have N2673 := Fr.app N1085 N2672
    obtain ⟨E2672, F0_2672, F1_2672, F2_2672, F3_2672, F4_2672, F5_2672, F6_2672, F7_2672, F8_2672, F9_2672, F10_2672, F11_2672, F12_2672, F13_2672, V0_2672, V1_2672, V2_2672, V3_2672, V4_2672, V5_2672, V6_2672, V7_2672, V8_2672, V9_2672, V10_2672⟩ := B2672
    show own_Go p e below G (T2672.setTop (mkF m 29 #[.val (.long va), .second, .val (.long vb), .second, .val (.long vp), .second, .val (.ref a738), .unset, .unset, .unset, .unset, .unset, .unset] []))
    refine own_aload X2672 hx (hb hby at_29) rfl rfl 31 rfl ?_
    refine own_iconst X2672 hx (hb hby at_31) (0 : Int32) rfl 32 rfl ?_
    refine own_iconst X2672 hx (hb hby at_32) (1 : Int32) rfl 33 rfl ?_
    refine own_callV X2672 hx hZ hown (own_w hw 120 rfl) (own_w hw 121 rfl) (own_w hw 122 rfl) (notFace_of_selects (args := #[]) (mvT hZ (own_w hw 122 rfl))) (own_w hw 114 rfl) (own_w hw 2 rfl) (own_w hw 115 rfl) (by decide) (rfl : T2672.heap = T2672.heap) E2672 (rm87 l Z a0 hw [] a738 a1_ a2_ a3_ a4_ a5_ a6_ a7_ a8_ a9_ a10_ a11_ va vb vp T2672.heap n0 Z2672 ga hord ⟨E2672, F0_2672, F1_2672, F2_2672, F3_2672, F4_2672, F5_2672, F6_2672, F7_2672, F8_2672, F9_2672, F10_2672, F11_2672, F12_2672, F13_2672, V0_2672, V1_2672, V2_2672, V3_2672, V4_2672, V5_2672, V6_2672, V7_2672, V8_2672, V9_2672, V10_2672⟩ hc) (by rw [hml]; rfl) pd_8 (argsL := [(.int (0 : Int32)), (.int (1 : Int32))]) rfl (rest := []) rfl (hb hby at_33) 0 (Nat.le_of_eq rfl) (by decide) (by decide) (by decide) (by decide) 36 rfl (fun T2678 L2678 v2678 X2678 hQ2678 => ?_)
    obtain ⟨rfl, N2678, e2678⟩ := hQ2678
    have N2679 := Fr.app N2673 N2678
    show own_Go p e below G (T2678.setTop (mkF m 36 #[.val (.long va), .second, .val (.long vb), .second, .val (.long vp), .second, .val (.ref a738), .unset, .unset, .unset, .unset, .unset, .unset] [(.int (0 : Int32))]))
    refine own_istore X2678 hx (hb hby at_36) #[.val (.long va), .second, .val (.long vb), .second, .val (.long vp), .second, .val (.ref a738), .val (.int (0 : Int32)), .unset, .unset, .unset, .unset, .unset] rfl 38 rfl ?_
    refine own_aload X2678 hx (hb hby at_38) rfl rfl 40 rfl ?_
    refine own_iconst X2678 hx (hb hby at_40) (1 : Int32) rfl 41 rfl ?_
    refine own_iconst X2678 hx (hb hby at_41) (0 : Int32) rfl 42 rfl ?_
    refine own_callV X2678 hx hZ hown (own_w hw 120 rfl) (own_w hw 121 rfl) (own_w hw 122 rfl) (notFace_of_selects (args := #[]) (mvT hZ (own_w hw 122 rfl))) (own_w hw 114 rfl) (own_w hw 2 rfl) (own_w hw 115 rfl) (by decide) e2678 E2672 (rm88 l Z a0 hw [] a738 a1_ a2_ a3_ a4_ a5_ a6_ a7_ a8_ a9_ a10_ a11_ va vb vp T2672.heap n0 Z2672 ga hord ⟨E2672, F0_2672, F1_2672, F2_2672, F3_2672, F4_2672, F5_2672, F6_2672, F7_2672, F8_2672, F9_2672, F10_2672, F11_2672, F12_2672, F13_2672, V0_2672, V1_2672, V2_2672, V3_2672, V4_2672, V5_2672, V6_2672, V7_2672, V8_2672, V9_2672, V10_2672⟩ hc) (by rw [hml]; rfl) pd_8 (argsL := [(.int (1 : Int32)), (.int (0 : Int32))]) rfl (rest := []) rfl (hb hby at_42) 0 (Nat.le_of_eq rfl) (by decide) (by decide) (by decide) (by decide) 45 rfl (fun T2684 L2684 v2684 X2684 hQ2684 => ?_)
    obtain ⟨rfl, N2684, e2684⟩ := hQ2684
    have N2685 := Fr.app N2679 N2684
    show own_Go p e below G (T2684.setTop (mkF m 45 #[.val (.long va), .second, .val (.long vb), .second, .val (.long vp), .second, .val (.ref a738), .val (.int (0 : Int32)), .unset, .unset, .unset, .unset, .unset] [(.int (1 : Int32))]))
    refine own_istore X2684 hx (hb hby at_45) #[.val (.long va), .second, .val (.long vb), .second, .val (.long vp), .second, .val (.ref a738), .val (.int (0 : Int32)), .val (.int (1 : Int32)), .unset, .unset, .unset, .unset] rfl 47 rfl ?_
    refine own_aload X2684 hx (hb hby at_47) rfl rfl 49 rfl ?_
    refine own_iconst X2684 hx (hb hby at_49) (0 : Int32) rfl 50 rfl ?_
    refine own_iconst X2684 hx (hb hby at_50) (0 : Int32) rfl 51 rfl ?_
    refine own_callV X2684 hx hZ hown (own_w hw 120 rfl) (own_w hw 121 rfl) (own_w hw 122 rfl) (notFace_of_selects (args := #[]) (mvT hZ (own_w hw 122 rfl))) (own_w hw 114 rfl) (own_w hw 2 rfl) (own_w hw 115 rfl) (by decide) e2684 E2672 (rm89 l Z a0 hw [] a738 a1_ a2_ a3_ a4_ a5_ a6_ a7_ a8_ a9_ a10_ a11_ va vb vp T2672.heap n0 Z2672 ga hord ⟨E2672, F0_2672, F1_2672, F2_2672, F3_2672, F4_2672, F5_2672, F6_2672, F7_2672, F8_2672, F9_2672, F10_2672, F11_2672, F12_2672, F13_2672, V0_2672, V1_2672, V2_2672, V3_2672, V4_2672, V5_2672, V6_2672, V7_2672, V8_2672, V9_2672, V10_2672⟩ hc) (by rw [hml]; rfl) pd_8 (argsL := [(.int (0 : Int32)), (.int (0 : Int32))]) rfl (rest := []) rfl (hb hby at_51) 0 (Nat.le_of_eq rfl) (by decide) (by decide) (by decide) (by decide) 54 rfl (fun T2688 L2688 v2688 X2688 hQ2688 => ?_)
    obtain ⟨rfl, N2688, e2688⟩ := hQ2688
    have N2689 := Fr.app N2685 N2688
    show own_Go p e below G (T2688.setTop (mkF m 54 #[.val (.long va), .second, .val (.long vb), .second, .val (.long vp), .second, .val (.ref a738), .val (.int (0 : Int32)), .val (.int (1 : Int32)), .unset, .unset, .unset, .unset] [(.int (0 : Int32))]))
    refine own_istore X2688 hx (hb hby at_54) #[.val (.long va), .second, .val (.long vb), .second, .val (.long vp), .second, .val (.ref a738), .val (.int (0 : Int32)), .val (.int (1 : Int32)), .val (.int (0 : Int32)), .unset, .unset, .unset] rfl 56 rfl ?_
    refine own_aload X2688 hx (hb hby at_56) rfl rfl 58 rfl ?_
    refine own_iconst X2688 hx (hb hby at_58) (1 : Int32) rfl 59 rfl ?_
    refine own_iconst X2688 hx (hb hby at_59) (1 : Int32) rfl 60 rfl ?_
    refine own_callV X2688 hx hZ hown (own_w hw 120 rfl) (own_w hw 121 rfl) (own_w hw 122 rfl) (notFace_of_selects (args := #[]) (mvT hZ (own_w hw 122 rfl))) (own_w hw 114 rfl) (own_w hw 2 rfl) (own_w hw 115 rfl) (by decide) e2688 E2672 (rm90 l Z a0 hw [] a738 a1_ a2_ a3_ a4_ a5_ a6_ a7_ a8_ a9_ a10_ a11_ va vb vp T2672.heap n0 Z2672 ga hord ⟨E2672, F0_2672, F1_2672, F2_2672, F3_2672, F4_2672, F5_2672, F6_2672, F7_2672, F8_2672, F9_2672, F10_2672, F11_2672, F12_2672, F13_2672, V0_2672, V1_2672, V2_2672, V3_2672, V4_2672, V5_2672, V6_2672, V7_2672, V8_2672, V9_2672, V10_2672⟩ hc) (by rw [hml]; rfl) pd_8 (argsL := [(.int (1 : Int32)), (.int (1 : Int32))]) rfl (rest := []) rfl (hb hby at_60) 0 (Nat.le_of_eq rfl) (by decide) (by decide) (by decide) (by decide) 63 rfl (fun T2692 L2692 v2692 X2692 hQ2692 => ?_)
    obtain ⟨rfl, N2692, e2692⟩ := hQ2692
    have N2693 := Fr.app N2689 N2692
    show own_Go p e below G (T2692.setTop (mkF m 63 #[.val (.long va), .second, .val (.long vb), .second, .val (.long vp), .second, .val (.ref a738), .val (.int (0 : Int32)), .val (.int (1 : Int32)), .val (.int (0 : Int32)), .unset, .unset, .unset] [(.int (0 : Int32))]))
    refine own_istore X2692 hx (hb hby at_63) #[.val (.long va), .second, .val (.long vb), .second, .val (.long vp), .second, .val (.ref a738), .val (.int (0 : Int32)), .val (.int (1 : Int32)), .val (.int (0 : Int32)), .val (.int (0 : Int32)), .unset, .unset] rfl 65 rfl ?_
    refine own_lloadN X2692 hx (hb hby at_65) rfl 66 rfl ?_
    refine own_lloadN X2692 hx (hb hby at_66) rfl 67 rfl ?_
    refine own_lcmp X2692 hx (hb hby at_67) 68 rfl ?_
    refine own_ifY X2692 hx (hb hby at_68) (own_nltL (own_lgt hc)).2 80 ⟨by decide, by decide⟩ ?_
    refine own_lloadN X2692 hx (hb hby at_80) rfl 81 rfl ?_
    refine own_lloadN X2692 hx (hb hby at_81) rfl 82 rfl ?_
    refine own_lcmp X2692 hx (hb hby at_82) 83 rfl ?_
    refine own_ifN X2692 hx (hb hby at_83) (own_gtL hc).2 86 rfl ?_
    refine own_iconst X2692 hx (hb hby at_86) (0 : Int32) rfl 87 rfl ?_
    refine own_istore X2692 hx (hb hby at_87) #[.val (.long va), .second, .val (.long vb), .second, .val (.long vp), .second, .val (.ref a738), .val (.int (0 : Int32)), .val (.int (1 : Int32)), .val (.int (0 : Int32)), .val (.int (0 : Int32)), .val (.int (0 : Int32)), .unset] rfl 89 rfl ?_
    refine own_iconst X2692 hx (hb hby at_89) (1 : Int32) rfl 90 rfl ?_
    refine own_istore X2692 hx (hb hby at_90) #[.val (.long va), .second, .val (.long vb), .second, .val (.long vp), .second, .val (.ref a738), .val (.int (0 : Int32)), .val (.int (1 : Int32)), .val (.int (0 : Int32)), .val (.int (0 : Int32)), .val (.int (0 : Int32)), .val (.int (1 : Int32))] rfl 92 rfl ?_
    refine own_goto X2692 hx (hb hby at_92) 101 ⟨by decide, by decide⟩ ?_
    refine own_iload X2692 hx (hb hby at_101) rfl 103 rfl ?_
    refine own_iload X2692 hx (hb hby at_103) rfl 105 rfl ?_
    refine own_icmpN X2692 hx (hb hby at_105) (teq (by decide)).2 108 rfl ?_
    refine own_iload X2692 hx (hb hby at_108) rfl 110 rfl ?_
    refine own_iload X2692 hx (hb hby at_110) rfl 112 rfl ?_
    refine own_icmpN X2692 hx (hb hby at_112) (teq (by decide)).2 115 rfl ?_
    refine own_iload X2692 hx (hb hby at_115) rfl 117 rfl ?_
    refine own_ifN X2692 hx (hb hby at_117) ((if0 _ _).trans (teq (by decide)).2) 120 rfl ?_
    refine own_iload X2692 hx (hb hby at_120) rfl 122 rfl ?_
    refine own_ifN X2692 hx (hb hby at_122) ((if0 _ _).trans (teq (by decide)).2) 125 rfl ?_
    refine own_iconst X2692 hx (hb hby at_125) (1 : Int32) rfl 126 rfl ?_
    refine own_goto X2692 hx (hb hby at_126) 130 ⟨by decide, by decide⟩ ?_
    refine own_nreturn X2692 hx Bd.notSynchronized hG Bd.returns (by simp) (hb hby at_130) (by decide) (by decide) ?_
    rw [e2692]
    exact ⟨rfl, N2693⟩
set_option maxRecDepth 65536 in
set_option maxHeartbeats 40000000 in
theorem comes_1 {Post : Tables → Env → Array Value → State → Outcome → State → Prop} (hpost : ∀ tb e args s v u, (limb_1_1.after args s (.returned v) u = true ∧ limb_1_2.after args s (.returned v) u = true ∧ True) → FrameEnd s (.returned v) u (Jvm.fieldLocs frame_1_writes args s ++ Jvm.arrayLocs frame_1_arrays args s ++ Jvm.staticLocs frame_1_statics s) 32 640 → Post tb e args s (.returned v) u) :
    ArmFor flags0 classFile x code maxLocals ret World_1 tables_1 room_1 Calls_1 rest_1 Pre_1 Post := by
  intro l hfl _ _ p e ha hc hk s m args below hf hA hF happ hP
  obtain ⟨hcalls, hrest, hpre⟩ := hP
  obtain ⟨-, -, -, hnamed, -, -, -, hat⟩ := (Spec.applies_iff hf).mp happ
  obtain ⟨hg, hn⟩ := and_e (Cond.before_iff.mp (show (Jvm.Cond.and given_1 narrow_1).before args s = true from hpre))
  obtain ⟨hcount, k0⟩ := and_e hg
  obtain ⟨q0, k1⟩ := and_e k0
  obtain ⟨q1, k2⟩ := and_e k1
  have q2 := k2
  obtain ⟨w0, w1, w2, rfl⟩ : ∃ w0 w1 w2 : Value, args = #[w0, w1, w2] := by
    have hs : args.size = 3 := by simpa [Cond.value, given_1] using hcount
    obtain ⟨L⟩ := args
    match L, hs with
    | [w0, w1, w2], _ => exact ⟨w0, w1, w2, rfl⟩
  have hw := fun d (hd : d ∈ tables_1) => atoms_spec (ws := Jvm.Cond.code x code maxLocals ret :: tables_1) hat d (List.mem_cons_of_mem _ hd)
  have hfit : Fit s := fun {y c} hc i hi => by
    obtain ⟨ha, rfl⟩ := Array.getElem?_eq_some_iff.mp hc
    have q := List.all_eq_true.mp ((Array.all_eq_true_iff_forall_mem.mp hF) _ (Array.getElem_mem ha)) i (List.mem_range.mpr hi)
    simpa [Array.getElem?_eq_getElem hi] using q
  obtain ⟨i0, r0⟩ := own_isl q0
  obtain rfl : w0 = (.long i0) := Option.some.inj r0
  obtain ⟨i1, r1⟩ := own_isl q1
  obtain rfl : w1 = (.long i1) := Option.some.inj r1
  obtain ⟨i2, r2⟩ := own_isl q2
  obtain rfl : w2 = (.long i2) := Option.some.inj r2
  obtain ⟨n, o, h1, h2, h3, _, L, rfl, ⟨rfl, N⟩, hq⟩ := rm0 l s _ hw tables_1 i0 i1 i2 s.heap s.heap.size (Nat.le_refl _) p e ha hc hk s m _ below hf ((Spec.applies_iff_loose hf).mp happ).1 ⟨rfl, State.Warmed39.refl s, rfl⟩ trivial
  refine ⟨n, _, h1, h2, h3, hpost _ _ _ _ _ _ ⟨Cond.after_iff.mpr rfl, Cond.after_iff.mpr (eq_i res_at (Term.int_eval (1)) rfl), trivial⟩ ⟨hq.1, hq.2.1, (hq.2.2.sift fun y hy => Or.inr (N y hy)).mono (by decide) (by decide)⟩⟩
theorem main_1_1 : Claimed_1_1 := comes_1 fun _ _ _ _ _ _ h hF => ⟨h.1, hF⟩
theorem main_1_2 : Claimed_1_2 := comes_1 fun _ _ _ _ _ _ h hF => ⟨h.2.1, hF⟩
end Jvm.Pilot.@@N@@
namespace Jvm.Pilot.@@N@@
open Jvm Jvm.ClassFile Sem Op Lib Jvm.Free Jvm.Stand Jvm.Pilot.@@N@@.Jvm.D
/-! MADE BY PROGRAM (witnessworld.py) out of the Statement's table words and the real class files: 14 classes; the members and pool entries that the words name. The judged class is class 1, her method 1. -/
namespace start1
open Jvm.ClassFile
def u (s : String) : CpInfo := .utf8 (stringToUtf16 s)
/-- a pool by its gaps: so many unusable entries, then the entry; so many at the end -/
def gap : Nat → List CpInfo → List CpInfo
  | 0, r => r
  | n + 1, r => .unusable :: gap n r
def poolList (es : List (Nat × CpInfo)) (last : Nat) : List CpInfo := es.foldr (fun e r => gap e.1 (e.2 :: r)) (gap last [])
def pool (es : List (Nat × CpInfo)) (last : Nat) : Array CpInfo := ⟨poolList es last⟩
def fileOf (pool : Array CpInfo) (this : Nat) (attrs : Array Attribute := #[]) (ms : Array MethodInfo := #[]) (fl : Nat := 33) (sup : Nat := 0) (ifs : Array Nat := #[]) (fds : Array FieldInfo := #[]) : ClassFile where
  minorVersion := 0
  majorVersion := 65
  constantPool := pool
  accessFlags := fl
  thisClass := this
  superClass := sup
  interfaces := ifs
  fields := fds
  methods := ms
  attributes := attrs
def plain (name : String) (sup : Option ClassId) : Class where
  name := name
  kind := .ordinary
  loader := none
  accessFlags := 33
  super := sup
  interfaces := #[]
  cf := none
  fields := #[]
  methods := #[]
  instanceTypes := #[]
  staticTypes := #[]
  resolved := #[]
  callSites := []
  init := .initialized
  statics := none
  mirror := none

def pool0 : Array CpInfo := pool [(5, u "<init>"), (0, u "()V"), (1, .class_ 10), (1, u "java/lang/Object")] 113

def k0c0 : Code := { maxStack := 0, maxLocals := 1, code := object_method_1_code, exceptionTable := #[], attributes := #[] }
def k0m0 : Method := { name := "<init>", desc := "()V", sig := { parameters := [], returnType := none }, accessFlags := 1, code := some k0c0 }
/-- java/lang/Object -/
def k0 : Class := { plain "java/lang/Object" none with
  accessFlags := 33
  interfaces := #[]
  cf := some (fileOf pool0 8 #[] #[{ accessFlags := 1, nameIndex := 5, descriptorIndex := 6, attributes := #[] }] 33 0 #[] #[])
  fields := #[]
  methods := #[k0m0]
  instanceTypes := #[]
  staticTypes := #[]
  resolved := Array.replicate 124 none
  statics := none }

def pool1 : Array CpInfo := pool [(2, .class_ 4), (1, u "java/lang/Object"), (0, u "<init>"), (0, u "()V"), (0, .class_ 8), (0, u "com/example/equitide/equitide/policy/backfilling/PlannedEnds"), (0, .methodref 7 10), (0, .nameAndType 5 11), (0, u "(II)V"), (0, .methodref 7 13), (0, .nameAndType 14 15), (0, u "add"), (0, u "(IJJ)V"), (0, .methodref 7 17), (0, .nameAndType 18 19), (0, u "before"), (0, u "(II)Z"), (0, .class_ 21), (0, u "com/example/equitide/equitide/policy/backfilling/PlannedEndsBeforePinLaw"), (2, u "law"), (0, u "(JJJ)Z")] 3

def k1m0 : Method := { name := "<init>", desc := "()V", sig := { parameters := [], returnType := none }, accessFlags := 1, code := none }
def k1c1 : Code := { maxStack := 6, maxLocals := 13, code := code, exceptionTable := #[], attributes := #[] }
def k1m1 : Method := { name := "law", desc := "(JJJ)Z", sig := { parameters := [.long, .long, .long], returnType := some .boolean }, accessFlags := 9, code := some k1c1 }
/-- com/example/equitide/equitide/policy/backfilling/PlannedEndsBeforePinLaw -/
def k1 : Class := { plain "com/example/equitide/equitide/policy/backfilling/PlannedEndsBeforePinLaw" (some 0) with
  accessFlags := 49
  interfaces := #[]
  cf := some (fileOf pool1 20 #[] #[{ accessFlags := 1, nameIndex := 5, descriptorIndex := 6, attributes := #[] }, { accessFlags := 9, nameIndex := 24, descriptorIndex := 25, attributes := #[] }] 49 2 #[] #[])
  fields := #[]
  methods := #[k1m0, k1m1]
  instanceTypes := #[]
  staticTypes := #[]
  resolved := Array.replicate 29 none
  statics := none }

def pool2 : Array CpInfo := pool [(1, .methodref 2 3), (0, .class_ 4), (0, .nameAndType 5 6), (0, u "java/lang/Object"), (0, u "<init>"), (0, u "()V"), (0, .class_ 8), (0, u "com/example/equitide/equitide/policy/backfilling/AvlTree"), (0, .fieldref 7 10), (0, .nameAndType 11 12), (0, u "root"), (0, u "I"), (2, .fieldref 7 16), (0, .nameAndType 17 18), (0, u "path"), (0, u "[I"), (0, .fieldref 7 20), (0, .nameAndType 21 18), (0, u "sides"), (0, .fieldref 7 23), (0, .nameAndType 24 18), (0, u "slotOf"), (0, .fieldref 7 26), (0, .nameAndType 27 18), (0, u "unusedSlots"), (0, .fieldref 7 29), (0, .nameAndType 30 12), (0, u "unused"), (0, .fieldref 7 32), (0, .nameAndType 33 18), (0, u "left"), (0, .fieldref 7 35), (0, .nameAndType 36 18), (0, u "right"), (0, .class_ 18), (0, .fieldref 7 39), (0, .nameAndType 40 41), (0, u "children"), (0, u "[[I"), (0, .fieldref 7 43), (0, .nameAndType 44 45), (0, u "height"), (0, u "[B"), (0, .methodref 7 47), (0, .nameAndType 48 49), (0, u "before"), (0, u "(II)Z"), (0, .methodref 7 51), (0, .nameAndType 52 53), (0, u "take"), (0, u "()I"), (0, .fieldref 7 55), (0, .nameAndType 56 12), (0, u "held"), (0, .methodref 7 58), (0, .nameAndType 59 60), (0, u "update"), (0, u "(I)V"), (0, .methodref 7 62), (0, .nameAndType 63 64), (0, u "down"), (0, u "(II)I"), (0, .methodref 7 66), (0, .nameAndType 67 68), (0, u "rejoined"), (0, u "(III)I"), (13, .methodref 7 83), (0, .nameAndType 84 60), (0, u "summarise"), (4, .methodref 7 90), (0, .nameAndType 91 92), (0, u "balanced"), (0, u "(I)I"), (0, .methodref 7 94), (0, .nameAndType 44 92), (3, .methodref 99 100), (0, .class_ 101), (0, .nameAndType 102 64), (0, u "java/lang/Math"), (0, u "max"), (0, u "NONE"), (2, u "LEFT"), (1, u "RIGHT"), (1, u "(II)V"), (7, u "insert")] 9

def k2c0 : Code := { maxStack := 5, maxLocals := 4, code := prog_49_method_1_code, exceptionTable := #[], attributes := #[] }
def k2m0 : Method := { name := "<init>", desc := "(II)V", sig := { parameters := [.int, .int], returnType := none }, accessFlags := 4, code := some k2c0 }
def k2m1 : Method := { name := "before", desc := "(II)Z", sig := { parameters := [.int, .int], returnType := some .boolean }, accessFlags := 1028, code := none }
def k2m2 : Method := { name := "summarise", desc := "(I)V", sig := { parameters := [.int], returnType := none }, accessFlags := 1028, code := none }
def k2c3 : Code := { maxStack := 2, maxLocals := 2, code := prog_49_method_7_code, exceptionTable := #[], attributes := #[] }
def k2m3 : Method := { name := "left", desc := "(I)I", sig := { parameters := [.int], returnType := some .int }, accessFlags := 20, code := some k2c3 }
def k2c4 : Code := { maxStack := 2, maxLocals := 2, code := prog_49_method_8_code, exceptionTable := #[], attributes := #[] }
def k2m4 : Method := { name := "right", desc := "(I)I", sig := { parameters := [.int], returnType := some .int }, accessFlags := 20, code := some k2c4 }
def k2c5 : Code := { maxStack := 3, maxLocals := 3, code := prog_49_method_10_code, exceptionTable := #[], attributes := #[] }
def k2m5 : Method := { name := "take", desc := "(I)I", sig := { parameters := [.int], returnType := some .int }, accessFlags := 20, code := some k2c5 }
def k2c6 : Code := { maxStack := 4, maxLocals := 2, code := prog_49_method_11_code, exceptionTable := #[], attributes := #[] }
def k2m6 : Method := { name := "take", desc := "()I", sig := { parameters := [], returnType := some .int }, accessFlags := 20, code := some k2c6 }
def k2c7 : Code := { maxStack := 6, maxLocals := 2, code := prog_49_method_12_code, exceptionTable := #[], attributes := #[] }
def k2m7 : Method := { name := "insert", desc := "(I)V", sig := { parameters := [.int], returnType := none }, accessFlags := 20, code := some k2c7 }
def k2c8 : Code := { maxStack := 5, maxLocals := 5, code := prog_49_method_22_code, exceptionTable := #[], attributes := #[] }
def k2m8 : Method := { name := "down", desc := "(II)I", sig := { parameters := [.int, .int], returnType := some .int }, accessFlags := 2, code := some k2c8 }
def k2c9 : Code := { maxStack := 4, maxLocals := 6, code := prog_49_method_23_code, exceptionTable := #[], attributes := #[] }
def k2m9 : Method := { name := "rejoined", desc := "(III)I", sig := { parameters := [.int, .int, .int], returnType := some .int }, accessFlags := 2, code := some k2c9 }
def k2c10 : Code := { maxStack := 6, maxLocals := 5, code := prog_49_method_25_code, exceptionTable := #[], attributes := #[] }
def k2m10 : Method := { name := "balanced", desc := "(I)I", sig := { parameters := [.int], returnType := some .int }, accessFlags := 2, code := some k2c10 }
def k2c11 : Code := { maxStack := 7, maxLocals := 2, code := prog_49_method_27_code, exceptionTable := #[], attributes := #[] }
def k2m11 : Method := { name := "update", desc := "(I)V", sig := { parameters := [.int], returnType := none }, accessFlags := 2, code := some k2c11 }
def k2c12 : Code := { maxStack := 2, maxLocals := 2, code := prog_49_method_28_code, exceptionTable := #[], attributes := #[] }
def k2m12 : Method := { name := "height", desc := "(I)I", sig := { parameters := [.int], returnType := some .int }, accessFlags := 2, code := some k2c12 }
/-- com/example/equitide/equitide/policy/backfilling/AvlTree -/
def k2 : Class := { plain "com/example/equitide/equitide/policy/backfilling/AvlTree" (some 0) with
  accessFlags := 1057
  interfaces := #[]
  cf := some (fileOf pool2 7 #[] #[{ accessFlags := 4, nameIndex := 5, descriptorIndex := 110, attributes := #[] }, { accessFlags := 1028, nameIndex := 48, descriptorIndex := 49, attributes := #[] }, { accessFlags := 1028, nameIndex := 84, descriptorIndex := 60, attributes := #[] }, { accessFlags := 20, nameIndex := 33, descriptorIndex := 92, attributes := #[] }, { accessFlags := 20, nameIndex := 36, descriptorIndex := 92, attributes := #[] }, { accessFlags := 20, nameIndex := 52, descriptorIndex := 92, attributes := #[] }, { accessFlags := 20, nameIndex := 52, descriptorIndex := 53, attributes := #[] }, { accessFlags := 20, nameIndex := 118, descriptorIndex := 60, attributes := #[] }, { accessFlags := 2, nameIndex := 63, descriptorIndex := 64, attributes := #[] }, { accessFlags := 2, nameIndex := 67, descriptorIndex := 68, attributes := #[] }, { accessFlags := 2, nameIndex := 91, descriptorIndex := 92, attributes := #[] }, { accessFlags := 2, nameIndex := 59, descriptorIndex := 60, attributes := #[] }, { accessFlags := 2, nameIndex := 44, descriptorIndex := 92, attributes := #[] }] 1057 2 #[] #[{ accessFlags := 28, nameIndex := 103, descriptorIndex := 12, attributes := #[] }, { accessFlags := 26, nameIndex := 106, descriptorIndex := 12, attributes := #[] }, { accessFlags := 26, nameIndex := 108, descriptorIndex := 12, attributes := #[] }, { accessFlags := 18, nameIndex := 33, descriptorIndex := 18, attributes := #[] }, { accessFlags := 18, nameIndex := 36, descriptorIndex := 18, attributes := #[] }, { accessFlags := 18, nameIndex := 24, descriptorIndex := 18, attributes := #[] }, { accessFlags := 18, nameIndex := 27, descriptorIndex := 18, attributes := #[] }, { accessFlags := 2, nameIndex := 30, descriptorIndex := 12, attributes := #[] }, { accessFlags := 18, nameIndex := 40, descriptorIndex := 41, attributes := #[] }, { accessFlags := 18, nameIndex := 44, descriptorIndex := 45, attributes := #[] }, { accessFlags := 2, nameIndex := 11, descriptorIndex := 12, attributes := #[] }, { accessFlags := 2, nameIndex := 56, descriptorIndex := 12, attributes := #[] }, { accessFlags := 18, nameIndex := 17, descriptorIndex := 18, attributes := #[] }, { accessFlags := 18, nameIndex := 21, descriptorIndex := 18, attributes := #[] }])
  fields := #[{ name := "NONE", type := .int, accessFlags := 28, slot := 0, constantValue := 0 }, { name := "LEFT", type := .int, accessFlags := 26, slot := 1, constantValue := 0 }, { name := "RIGHT", type := .int, accessFlags := 26, slot := 2, constantValue := 0 }, { name := "left", type := (.array .int), accessFlags := 18, slot := 0, constantValue := 0 }, { name := "right", type := (.array .int), accessFlags := 18, slot := 1, constantValue := 0 }, { name := "slotOf", type := (.array .int), accessFlags := 18, slot := 2, constantValue := 0 }, { name := "unusedSlots", type := (.array .int), accessFlags := 18, slot := 3, constantValue := 0 }, { name := "unused", type := .int, accessFlags := 2, slot := 4, constantValue := 0 }, { name := "children", type := (.array (.array .int)), accessFlags := 18, slot := 5, constantValue := 0 }, { name := "height", type := (.array .byte), accessFlags := 18, slot := 6, constantValue := 0 }, { name := "root", type := .int, accessFlags := 2, slot := 7, constantValue := 0 }, { name := "held", type := .int, accessFlags := 2, slot := 8, constantValue := 0 }, { name := "path", type := (.array .int), accessFlags := 18, slot := 9, constantValue := 0 }, { name := "sides", type := (.array .int), accessFlags := 18, slot := 10, constantValue := 0 }]
  methods := #[k2m0, k2m1, k2m2, k2m3, k2m4, k2m5, k2m6, k2m7, k2m8, k2m9, k2m10, k2m11, k2m12]
  instanceTypes := #[(.array .int), (.array .int), (.array .int), (.array .int), .int, (.array (.array .int)), (.array .byte), .int, .int, (.array .int), (.array .int)]
  staticTypes := #[.int, .int, .int]
  resolved := Array.replicate 128 none
  statics := none }

def pool3 : Array CpInfo := pool [(1, .methodref 2 3), (0, .class_ 4), (0, .nameAndType 5 6), (0, u "com/example/equitide/equitide/policy/backfilling/AvlTree"), (0, u "<init>"), (0, u "(II)V"), (0, .fieldref 8 9), (0, .class_ 10), (0, .nameAndType 11 12), (0, u "com/example/equitide/equitide/policy/backfilling/PlannedEnds"), (0, u "plannedEnd"), (0, u "[J"), (0, .fieldref 8 14), (0, .nameAndType 15 12), (0, u "processors"), (0, .fieldref 8 17), (0, .nameAndType 18 12), (0, u "below"), (0, .methodref 8 20), (0, .nameAndType 21 22), (0, u "take"), (0, u "(I)I"), (0, .methodref 8 24), (0, .nameAndType 25 26), (0, u "insert"), (0, u "(I)V"), (7, .methodref 8 35), (0, .nameAndType 36 22), (0, u "left"), (0, .methodref 8 38), (0, .nameAndType 18 39), (0, u "(I)J"), (0, .methodref 8 41), (0, .nameAndType 42 22), (0, u "right"), (19, .class_ 63), (0, u "com/example/equitide/equitide/policy/backfilling/PlannedEnds$Window"), (15, u "add"), (0, u "(IJJ)V"), (4, u "summarise"), (0, u "before"), (0, u "(II)Z")] 19

def k3c0 : Code := { maxStack := 3, maxLocals := 3, code := prog_66_method_1_code, exceptionTable := #[], attributes := #[] }
def k3m0 : Method := { name := "<init>", desc := "(II)V", sig := { parameters := [.int, .int], returnType := none }, accessFlags := 1, code := some k3c0 }
def k3c1 : Code := { maxStack := 4, maxLocals := 7, code := prog_66_method_2_code, exceptionTable := #[], attributes := #[] }
def k3m1 : Method := { name := "add", desc := "(IJJ)V", sig := { parameters := [.int, .long, .long], returnType := none }, accessFlags := 1, code := some k3c1 }
def k3c2 : Code := { maxStack := 7, maxLocals := 2, code := prog_66_method_8_code, exceptionTable := #[], attributes := #[] }
def k3m2 : Method := { name := "summarise", desc := "(I)V", sig := { parameters := [.int], returnType := none }, accessFlags := 4, code := some k3c2 }
def k3c3 : Code := { maxStack := 4, maxLocals := 3, code := prog_66_method_9_code, exceptionTable := #[], attributes := #[] }
def k3m3 : Method := { name := "before", desc := "(II)Z", sig := { parameters := [.int, .int], returnType := some .boolean }, accessFlags := 4, code := some k3c3 }
def k3c4 : Code := { maxStack := 2, maxLocals := 2, code := prog_66_method_10_code, exceptionTable := #[], attributes := #[] }
def k3m4 : Method := { name := "below", desc := "(I)J", sig := { parameters := [.int], returnType := some .long }, accessFlags := 2, code := some k3c4 }
/-- com/example/equitide/equitide/policy/backfilling/PlannedEnds -/
def k3 : Class := { plain "com/example/equitide/equitide/policy/backfilling/PlannedEnds" (some 2) with
  accessFlags := 49
  interfaces := #[]
  cf := some (fileOf pool3 8 #[.nestMembers #[62]] #[{ accessFlags := 1, nameIndex := 5, descriptorIndex := 6, attributes := #[] }, { accessFlags := 1, nameIndex := 79, descriptorIndex := 80, attributes := #[] }, { accessFlags := 4, nameIndex := 85, descriptorIndex := 26, attributes := #[] }, { accessFlags := 4, nameIndex := 86, descriptorIndex := 87, attributes := #[] }, { accessFlags := 2, nameIndex := 18, descriptorIndex := 39, attributes := #[] }] 49 2 #[] #[{ accessFlags := 18, nameIndex := 11, descriptorIndex := 12, attributes := #[] }, { accessFlags := 18, nameIndex := 15, descriptorIndex := 12, attributes := #[] }, { accessFlags := 18, nameIndex := 18, descriptorIndex := 12, attributes := #[] }])
  fields := #[{ name := "plannedEnd", type := (.array .long), accessFlags := 18, slot := 11, constantValue := 0 }, { name := "processors", type := (.array .long), accessFlags := 18, slot := 12, constantValue := 0 }, { name := "below", type := (.array .long), accessFlags := 18, slot := 13, constantValue := 0 }]
  methods := #[k3m0, k3m1, k3m2, k3m3, k3m4]
  instanceTypes := #[(.array .int), (.array .int), (.array .int), (.array .int), .int, (.array (.array .int)), (.array .byte), .int, .int, (.array .int), (.array .int), (.array .long), (.array .long), (.array .long)]
  staticTypes := #[]
  resolved := Array.replicate 107 none
  statics := none }

def pool4 : Array CpInfo := pool [(1, .class_ 2), (0, u "java/lang/Math"), (1, .class_ 6), (1, u "java/lang/Object"), (0, u "<init>"), (0, u "()V"), (89, .class_ 100), (1, u "java/lang/Math$RandomNumberGeneratorHolder"), (71, u "negativeZeroFloatBits"), (0, u "J"), (2, u "negativeZeroDoubleBits"), (21, u "max"), (46, u "$assertionsDisabled"), (0, u "Z"), (88, u "(II)I"), (2, u "twoToTheDoubleScaleDown"), (0, u "D"), (4, u "twoToTheDoubleScaleUp"), (9, u "E"), (3, u "PI"), (2, u "TAU"), (2, u "DEGREES_TO_RADIANS"), (0, u "RADIANS_TO_DEGREES")] 94

def k4m0 : Method := { name := "<init>", desc := "()V", sig := { parameters := [], returnType := none }, accessFlags := 2, code := none }
def k4c1 : Code := { maxStack := 2, maxLocals := 2, code := jdk_29_method_65_code, exceptionTable := #[], attributes := #[] }
def k4m1 : Method := { name := "max", desc := "(II)I", sig := { parameters := [.int, .int], returnType := some .int }, accessFlags := 9, code := some k4c1 }
/-- java/lang/Math -/
def k4 : Class := { plain "java/lang/Math" (some 0) with
  accessFlags := 49
  interfaces := #[]
  cf := some (fileOf pool4 1 #[.nestMembers #[98]] #[{ accessFlags := 2, nameIndex := 7, descriptorIndex := 8, attributes := #[] }, { accessFlags := 9, nameIndex := 198, descriptorIndex := 335, attributes := #[] }] 49 4 #[] #[{ accessFlags := 25, nameIndex := 354, descriptorIndex := 339, attributes := #[] }, { accessFlags := 25, nameIndex := 358, descriptorIndex := 339, attributes := #[] }, { accessFlags := 25, nameIndex := 361, descriptorIndex := 339, attributes := #[] }, { accessFlags := 26, nameIndex := 364, descriptorIndex := 339, attributes := #[] }, { accessFlags := 26, nameIndex := 365, descriptorIndex := 339, attributes := #[] }, { accessFlags := 26, nameIndex := 172, descriptorIndex := 173, attributes := #[] }, { accessFlags := 26, nameIndex := 176, descriptorIndex := 173, attributes := #[] }, { accessFlags := 8, nameIndex := 344, descriptorIndex := 339, attributes := #[] }, { accessFlags := 8, nameIndex := 338, descriptorIndex := 339, attributes := #[] }, { accessFlags := 4120, nameIndex := 245, descriptorIndex := 246, attributes := #[] }])
  fields := #[{ name := "E", type := .double, accessFlags := 25, slot := 0, constantValue := 0 }, { name := "PI", type := .double, accessFlags := 25, slot := 1, constantValue := 0 }, { name := "TAU", type := .double, accessFlags := 25, slot := 2, constantValue := 0 }, { name := "DEGREES_TO_RADIANS", type := .double, accessFlags := 26, slot := 3, constantValue := 0 }, { name := "RADIANS_TO_DEGREES", type := .double, accessFlags := 26, slot := 4, constantValue := 0 }, { name := "negativeZeroFloatBits", type := .long, accessFlags := 26, slot := 5, constantValue := 0 }, { name := "negativeZeroDoubleBits", type := .long, accessFlags := 26, slot := 6, constantValue := 0 }, { name := "twoToTheDoubleScaleUp", type := .double, accessFlags := 8, slot := 7, constantValue := 0 }, { name := "twoToTheDoubleScaleDown", type := .double, accessFlags := 8, slot := 8, constantValue := 0 }, { name := "$assertionsDisabled", type := .boolean, accessFlags := 4120, slot := 9, constantValue := 0 }]
  methods := #[k4m0, k4m1]
  instanceTypes := #[]
  staticTypes := #[.double, .double, .double, .double, .double, .long, .long, .double, .double, .boolean]
  resolved := Array.replicate 460 none
  statics := none }

def pool5 : Array CpInfo := pool [(1, u "java/lang/Cloneable"), (0, .class_ 1), (0, u "java/lang/Object"), (0, .class_ 3)] 3

/-- java/lang/Cloneable -/
def k5 : Class := { plain "java/lang/Cloneable" (some 0) with
  accessFlags := 1537
  interfaces := #[]
  cf := some (fileOf pool5 2 #[] #[] 1537 4 #[] #[])
  fields := #[]
  methods := #[]
  instanceTypes := #[]
  staticTypes := #[]
  resolved := Array.replicate 8 none
  statics := none }

def pool6 : Array CpInfo := pool [(1, u "java/io/Serializable"), (0, .class_ 1), (0, u "java/lang/Object"), (0, .class_ 3)] 3

/-- java/io/Serializable -/
def k6 : Class := { plain "java/io/Serializable" (some 0) with
  accessFlags := 1537
  interfaces := #[]
  cf := some (fileOf pool6 2 #[] #[] 1537 4 #[] #[])
  fields := #[]
  methods := #[]
  instanceTypes := #[]
  staticTypes := #[]
  resolved := Array.replicate 8 none
  statics := none }

/-- the primitive byte -/
def k7 : Class := { plain "byte" none with kind := .primitive 'B', accessFlags := 0x411 }
/-- [B -/
def k8 : Class := { plain "[B" (some 0) with kind := .array 7 .byte, interfaces := #[5, 6], accessFlags := 1041 }

/-- the primitive int -/
def k9 : Class := { plain "int" none with kind := .primitive 'I', accessFlags := 0x411 }
/-- [I -/
def k10 : Class := { plain "[I" (some 0) with kind := .array 9 .int, interfaces := #[5, 6], accessFlags := 1041 }

/-- the primitive long -/
def k11 : Class := { plain "long" none with kind := .primitive 'J', accessFlags := 0x411 }
/-- [J -/
def k12 : Class := { plain "[J" (some 0) with kind := .array 11 .long, interfaces := #[5, 6], accessFlags := 1041 }

/-- [[I -/
def k13 : Class := { plain "[[I" (some 0) with kind := .array 10 (.array .int), interfaces := #[5, 6], accessFlags := 1041 }

def heap : Heap := #[]
def classes : Array Class := #[k0, k1, k2, k3, k4, k5, k6, k7, k8, k9, k10, k11, k12, k13]
def interned : List (Array UInt16 × Addr) := []
def slotsUsed : Nat := 0
def theMethod : MethodId := ⟨1, 1⟩
def args0 : Array Value := #[.long 5, .long 6, .long 7]
def aboutOver (below : List Frame) : State where
  vm := { classes := classes, interned := interned.toArray }
  heap := heap
  slotsUsed := slotsUsed
  threads := #[{ frames := .invoking theMethod args0 :: below }]
def below0 : List Frame := [.native { method := ⟨0, 0⟩, args := #[] }]
def about1 : State := aboutOver below0
def p0 : Program := .bare "" "" ""
def e0 : Env := launch0.env 0 0 0
theorem w_frames : about1.frames = Frame.invoking theMethod args0 :: below0 := rfl
set_option maxRecDepth 65536 in
theorem w_args : argsFit about1.vm theMethod args0 = true := by decide +kernel
set_option maxRecDepth 65536 in
theorem w_heap : heapFits about1 = true := by decide +kernel
set_option maxRecDepth 65536 in
theorem w_runnable : about1.curStatus? = some .runnable := by decide +kernel
set_option maxRecDepth 65536 in
theorem w_alone : about1.alone = true := by decide +kernel
set_option maxRecDepth 65536 in
theorem w_named : about1.methodNamed? x = some theMethod := by decide +kernel
set_option maxRecDepth 65536 in
theorem w_hears : about1.hears theMethod below0 = true := by decide +kernel
set_option maxRecDepth 65536 in
theorem w_ripe : about1.ripe theMethod args0 below0 = true := by decide +kernel
theorem w_running : about1.status = .running := rfl
set_option maxRecDepth 65536 in
theorem w_room : about1.hasRoom e0.platform room_1 = true :=
  launch0.hasRoom_least _ room_1 (by decide +kernel) (by decide +kernel) (by decide +kernel) (by decide +kernel) (by decide +kernel) (by decide +kernel)
theorem allAtoms_all (ts : List Jvm.Cond) (a : Array Jvm.Value) (st : Jvm.State) : (allAtoms ts).before a st = ts.all (fun c => c.before a st) := by
  induction ts with
  | nil => rfl
  | cons c t ih =>
    show (Jvm.Cond.and c (allAtoms t)).before a st = _
    rw [Jvm.Cond.before_and, ih, List.all_cons]
def words1 : List Jvm.Cond := Jvm.Cond.code x code maxLocals ret :: tables_1
/-- a 'code' word, met by the world's own term for the bytes: nothing is compared byte by byte -/
theorem code_word {y : MethodName} {bytes : ByteArray} {mx : Nat} {rt : Option FieldType} {a : Array Value} {s : State} {m : MethodId} {meth : Method} {c : Code} (h1 : s.methodNamed? y = some m) (h2 : s.vm.method? m = some meth) (h3 : meth.code = some c) (h4 : c.code = bytes)
    (h5 : (c.maxLocals == mx && c.exceptionTable.isEmpty && decide (c.maxStack ≤ mostOperands) && decide (meth.sig.returnType = rt) && !meth.locks && decide (parseMethodDescriptor y.desc = some meth.sig)) = true) : (Jvm.Cond.code y bytes mx rt).before a s = true := by
  simp only [Bool.and_eq_true, beq_iff_eq, Bool.not_eq_true', decide_eq_true_eq] at h5
  obtain ⟨⟨⟨⟨⟨g1, g2⟩, g3⟩, g4⟩, g5⟩, g6⟩ := h5
  simp [Cond.before, Cond.holds, Cond.value, h1, h2, h3, h4, g1, g2, g3, g4, g5, g6]
def isCode : Jvm.Cond → Bool
  | .code _ _ _ _ => true
  | _ => false
theorem all_split {L : List Jvm.Cond} {P : Jvm.Cond → Bool} (h1 : L.all (fun c => isCode c || P c) = true) (h2 : ∀ c ∈ L.filter isCode, P c = true) : L.all P = true := by
  refine List.all_eq_true.mpr fun c hc => ?_
  have h := List.all_eq_true.mp h1 c hc
  rcases Bool.eq_false_or_eq_true (isCode c) with hi | hi
  · exact h2 c (List.mem_filter.mpr ⟨hc, hi⟩)
  · simpa [hi] using h
set_option maxRecDepth 65536 in
theorem w_c0 : (Jvm.Cond.code x code maxLocals ret).before args0 about1 = true := code_word (m := ⟨1, 1⟩) (meth := k1m1) (c := k1c1) (by decide +kernel) rfl rfl rfl (by decide +kernel)
set_option maxRecDepth 65536 in
theorem w_c1 : (Jvm.Cond.code ({ cls := "com/example/equitide/equitide/policy/backfilling/PlannedEnds", name := "<init>", desc := "(II)V" } : Jvm.MethodName) prog_66_method_1_code (3 : Nat) (Option.none : Option Jvm.ClassFile.FieldType)).before args0 about1 = true := code_word (m := ⟨3, 0⟩) (meth := k3m0) (c := k3c0) (by decide +kernel) rfl rfl rfl (by decide +kernel)
set_option maxRecDepth 65536 in
theorem w_c2 : (Jvm.Cond.code ({ cls := "com/example/equitide/equitide/policy/backfilling/AvlTree", name := "<init>", desc := "(II)V" } : Jvm.MethodName) prog_49_method_1_code (4 : Nat) (Option.none : Option Jvm.ClassFile.FieldType)).before args0 about1 = true := code_word (m := ⟨2, 0⟩) (meth := k2m0) (c := k2c0) (by decide +kernel) rfl rfl rfl (by decide +kernel)
set_option maxRecDepth 65536 in
theorem w_c3 : (Jvm.Cond.code ({ cls := "java/lang/Object", name := "<init>", desc := "()V" } : Jvm.MethodName) object_method_1_code (1 : Nat) (Option.none : Option Jvm.ClassFile.FieldType)).before args0 about1 = true := code_word (m := ⟨0, 0⟩) (meth := k0m0) (c := k0c0) (by decide +kernel) rfl rfl rfl (by decide +kernel)
set_option maxRecDepth 65536 in
theorem w_c4 : (Jvm.Cond.code ({ cls := "com/example/equitide/equitide/policy/backfilling/PlannedEnds", name := "add", desc := "(IJJ)V" } : Jvm.MethodName) prog_66_method_2_code (7 : Nat) (Option.none : Option Jvm.ClassFile.FieldType)).before args0 about1 = true := code_word (m := ⟨3, 1⟩) (meth := k3m1) (c := k3c1) (by decide +kernel) rfl rfl rfl (by decide +kernel)
set_option maxRecDepth 65536 in
theorem w_c5 : (Jvm.Cond.code ({ cls := "com/example/equitide/equitide/policy/backfilling/AvlTree", name := "take", desc := "(I)I" } : Jvm.MethodName) prog_49_method_10_code (3 : Nat) (Option.some Jvm.ClassFile.FieldType.int)).before args0 about1 = true := code_word (m := ⟨2, 5⟩) (meth := k2m5) (c := k2c5) (by decide +kernel) rfl rfl rfl (by decide +kernel)
set_option maxRecDepth 65536 in
theorem w_c6 : (Jvm.Cond.code ({ cls := "com/example/equitide/equitide/policy/backfilling/AvlTree", name := "take", desc := "()I" } : Jvm.MethodName) prog_49_method_11_code (2 : Nat) (Option.some Jvm.ClassFile.FieldType.int)).before args0 about1 = true := code_word (m := ⟨2, 6⟩) (meth := k2m6) (c := k2c6) (by decide +kernel) rfl rfl rfl (by decide +kernel)
set_option maxRecDepth 65536 in
theorem w_c7 : (Jvm.Cond.code ({ cls := "com/example/equitide/equitide/policy/backfilling/AvlTree", name := "insert", desc := "(I)V" } : Jvm.MethodName) prog_49_method_12_code (2 : Nat) (Option.none : Option Jvm.ClassFile.FieldType)).before args0 about1 = true := code_word (m := ⟨2, 7⟩) (meth := k2m7) (c := k2c7) (by decide +kernel) rfl rfl rfl (by decide +kernel)
set_option maxRecDepth 65536 in
theorem w_c8 : (Jvm.Cond.code ({ cls := "com/example/equitide/equitide/policy/backfilling/AvlTree", name := "update", desc := "(I)V" } : Jvm.MethodName) prog_49_method_27_code (2 : Nat) (Option.none : Option Jvm.ClassFile.FieldType)).before args0 about1 = true := code_word (m := ⟨2, 11⟩) (meth := k2m11) (c := k2c11) (by decide +kernel) rfl rfl rfl (by decide +kernel)
set_option maxRecDepth 65536 in
theorem w_c9 : (Jvm.Cond.code ({ cls := "com/example/equitide/equitide/policy/backfilling/AvlTree", name := "height", desc := "(I)I" } : Jvm.MethodName) prog_49_method_28_code (2 : Nat) (Option.some Jvm.ClassFile.FieldType.int)).before args0 about1 = true := code_word (m := ⟨2, 12⟩) (meth := k2m12) (c := k2c12) (by decide +kernel) rfl rfl rfl (by decide +kernel)
set_option maxRecDepth 65536 in
theorem w_c10 : (Jvm.Cond.code ({ cls := "java/lang/Math", name := "max", desc := "(II)I" } : Jvm.MethodName) jdk_29_method_65_code (2 : Nat) (Option.some Jvm.ClassFile.FieldType.int)).before args0 about1 = true := code_word (m := ⟨4, 1⟩) (meth := k4m1) (c := k4c1) (by decide +kernel) rfl rfl rfl (by decide +kernel)
set_option maxRecDepth 65536 in
theorem w_c11 : (Jvm.Cond.code ({ cls := "com/example/equitide/equitide/policy/backfilling/PlannedEnds", name := "summarise", desc := "(I)V" } : Jvm.MethodName) prog_66_method_8_code (2 : Nat) (Option.none : Option Jvm.ClassFile.FieldType)).before args0 about1 = true := code_word (m := ⟨3, 2⟩) (meth := k3m2) (c := k3c2) (by decide +kernel) rfl rfl rfl (by decide +kernel)
set_option maxRecDepth 65536 in
theorem w_c12 : (Jvm.Cond.code ({ cls := "com/example/equitide/equitide/policy/backfilling/AvlTree", name := "left", desc := "(I)I" } : Jvm.MethodName) prog_49_method_7_code (2 : Nat) (Option.some Jvm.ClassFile.FieldType.int)).before args0 about1 = true := code_word (m := ⟨2, 3⟩) (meth := k2m3) (c := k2c3) (by decide +kernel) rfl rfl rfl (by decide +kernel)
set_option maxRecDepth 65536 in
theorem w_c13 : (Jvm.Cond.code ({ cls := "com/example/equitide/equitide/policy/backfilling/PlannedEnds", name := "below", desc := "(I)J" } : Jvm.MethodName) prog_66_method_10_code (2 : Nat) (Option.some Jvm.ClassFile.FieldType.long)).before args0 about1 = true := code_word (m := ⟨3, 4⟩) (meth := k3m4) (c := k3c4) (by decide +kernel) rfl rfl rfl (by decide +kernel)
set_option maxRecDepth 65536 in
theorem w_c14 : (Jvm.Cond.code ({ cls := "com/example/equitide/equitide/policy/backfilling/AvlTree", name := "right", desc := "(I)I" } : Jvm.MethodName) prog_49_method_8_code (2 : Nat) (Option.some Jvm.ClassFile.FieldType.int)).before args0 about1 = true := code_word (m := ⟨2, 4⟩) (meth := k2m4) (c := k2c4) (by decide +kernel) rfl rfl rfl (by decide +kernel)
set_option maxRecDepth 65536 in
theorem w_c15 : (Jvm.Cond.code ({ cls := "com/example/equitide/equitide/policy/backfilling/AvlTree", name := "down", desc := "(II)I" } : Jvm.MethodName) prog_49_method_22_code (5 : Nat) (Option.some Jvm.ClassFile.FieldType.int)).before args0 about1 = true := code_word (m := ⟨2, 8⟩) (meth := k2m8) (c := k2c8) (by decide +kernel) rfl rfl rfl (by decide +kernel)
set_option maxRecDepth 65536 in
theorem w_c16 : (Jvm.Cond.code ({ cls := "com/example/equitide/equitide/policy/backfilling/AvlTree", name := "rejoined", desc := "(III)I" } : Jvm.MethodName) prog_49_method_23_code (6 : Nat) (Option.some Jvm.ClassFile.FieldType.int)).before args0 about1 = true := code_word (m := ⟨2, 9⟩) (meth := k2m9) (c := k2c9) (by decide +kernel) rfl rfl rfl (by decide +kernel)
set_option maxRecDepth 65536 in
theorem w_c17 : (Jvm.Cond.code ({ cls := "com/example/equitide/equitide/policy/backfilling/PlannedEnds", name := "before", desc := "(II)Z" } : Jvm.MethodName) prog_66_method_9_code (3 : Nat) (Option.some Jvm.ClassFile.FieldType.boolean)).before args0 about1 = true := code_word (m := ⟨3, 3⟩) (meth := k3m3) (c := k3c3) (by decide +kernel) rfl rfl rfl (by decide +kernel)
set_option maxRecDepth 65536 in
theorem w_c18 : (Jvm.Cond.code ({ cls := "com/example/equitide/equitide/policy/backfilling/AvlTree", name := "balanced", desc := "(I)I" } : Jvm.MethodName) prog_49_method_25_code (5 : Nat) (Option.some Jvm.ClassFile.FieldType.int)).before args0 about1 = true := code_word (m := ⟨2, 10⟩) (meth := k2m10) (c := k2c10) (by decide +kernel) rfl rfl rfl (by decide +kernel)
def codes1 : List Jvm.Cond := [Jvm.Cond.code x code maxLocals ret, Jvm.Cond.code ({ cls := "com/example/equitide/equitide/policy/backfilling/PlannedEnds", name := "<init>", desc := "(II)V" } : Jvm.MethodName) prog_66_method_1_code (3 : Nat) (Option.none : Option Jvm.ClassFile.FieldType), Jvm.Cond.code ({ cls := "com/example/equitide/equitide/policy/backfilling/AvlTree", name := "<init>", desc := "(II)V" } : Jvm.MethodName) prog_49_method_1_code (4 : Nat) (Option.none : Option Jvm.ClassFile.FieldType), Jvm.Cond.code ({ cls := "java/lang/Object", name := "<init>", desc := "()V" } : Jvm.MethodName) object_method_1_code (1 : Nat) (Option.none : Option Jvm.ClassFile.FieldType), Jvm.Cond.code ({ cls := "com/example/equitide/equitide/policy/backfilling/PlannedEnds", name := "add", desc := "(IJJ)V" } : Jvm.MethodName) prog_66_method_2_code (7 : Nat) (Option.none : Option Jvm.ClassFile.FieldType), Jvm.Cond.code ({ cls := "com/example/equitide/equitide/policy/backfilling/AvlTree", name := "take", desc := "(I)I" } : Jvm.MethodName) prog_49_method_10_code (3 : Nat) (Option.some Jvm.ClassFile.FieldType.int), Jvm.Cond.code ({ cls := "com/example/equitide/equitide/policy/backfilling/AvlTree", name := "take", desc := "()I" } : Jvm.MethodName) prog_49_method_11_code (2 : Nat) (Option.some Jvm.ClassFile.FieldType.int), Jvm.Cond.code ({ cls := "com/example/equitide/equitide/policy/backfilling/AvlTree", name := "insert", desc := "(I)V" } : Jvm.MethodName) prog_49_method_12_code (2 : Nat) (Option.none : Option Jvm.ClassFile.FieldType), Jvm.Cond.code ({ cls := "com/example/equitide/equitide/policy/backfilling/AvlTree", name := "update", desc := "(I)V" } : Jvm.MethodName) prog_49_method_27_code (2 : Nat) (Option.none : Option Jvm.ClassFile.FieldType), Jvm.Cond.code ({ cls := "com/example/equitide/equitide/policy/backfilling/AvlTree", name := "height", desc := "(I)I" } : Jvm.MethodName) prog_49_method_28_code (2 : Nat) (Option.some Jvm.ClassFile.FieldType.int), Jvm.Cond.code ({ cls := "java/lang/Math", name := "max", desc := "(II)I" } : Jvm.MethodName) jdk_29_method_65_code (2 : Nat) (Option.some Jvm.ClassFile.FieldType.int), Jvm.Cond.code ({ cls := "com/example/equitide/equitide/policy/backfilling/PlannedEnds", name := "summarise", desc := "(I)V" } : Jvm.MethodName) prog_66_method_8_code (2 : Nat) (Option.none : Option Jvm.ClassFile.FieldType), Jvm.Cond.code ({ cls := "com/example/equitide/equitide/policy/backfilling/AvlTree", name := "left", desc := "(I)I" } : Jvm.MethodName) prog_49_method_7_code (2 : Nat) (Option.some Jvm.ClassFile.FieldType.int), Jvm.Cond.code ({ cls := "com/example/equitide/equitide/policy/backfilling/PlannedEnds", name := "below", desc := "(I)J" } : Jvm.MethodName) prog_66_method_10_code (2 : Nat) (Option.some Jvm.ClassFile.FieldType.long), Jvm.Cond.code ({ cls := "com/example/equitide/equitide/policy/backfilling/AvlTree", name := "right", desc := "(I)I" } : Jvm.MethodName) prog_49_method_8_code (2 : Nat) (Option.some Jvm.ClassFile.FieldType.int), Jvm.Cond.code ({ cls := "com/example/equitide/equitide/policy/backfilling/AvlTree", name := "down", desc := "(II)I" } : Jvm.MethodName) prog_49_method_22_code (5 : Nat) (Option.some Jvm.ClassFile.FieldType.int), Jvm.Cond.code ({ cls := "com/example/equitide/equitide/policy/backfilling/AvlTree", name := "rejoined", desc := "(III)I" } : Jvm.MethodName) prog_49_method_23_code (6 : Nat) (Option.some Jvm.ClassFile.FieldType.int), Jvm.Cond.code ({ cls := "com/example/equitide/equitide/policy/backfilling/PlannedEnds", name := "before", desc := "(II)Z" } : Jvm.MethodName) prog_66_method_9_code (3 : Nat) (Option.some Jvm.ClassFile.FieldType.boolean), Jvm.Cond.code ({ cls := "com/example/equitide/equitide/policy/backfilling/AvlTree", name := "balanced", desc := "(I)I" } : Jvm.MethodName) prog_49_method_25_code (5 : Nat) (Option.some Jvm.ClassFile.FieldType.int)]
set_option maxRecDepth 65536 in
theorem codes_eq : words1.filter isCode = codes1 := rfl
theorem w_codes : ∀ c ∈ words1.filter isCode, c.before args0 about1 = true := by
  rw [codes_eq]
  intro c hc
  simp only [codes1, List.mem_cons, List.not_mem_nil, or_false] at hc
  rcases hc with rfl | rfl | rfl | rfl | rfl | rfl | rfl | rfl | rfl | rfl | rfl | rfl | rfl | rfl | rfl | rfl | rfl | rfl | rfl
  · exact w_c0
  · exact w_c1
  · exact w_c2
  · exact w_c3
  · exact w_c4
  · exact w_c5
  · exact w_c6
  · exact w_c7
  · exact w_c8
  · exact w_c9
  · exact w_c10
  · exact w_c11
  · exact w_c12
  · exact w_c13
  · exact w_c14
  · exact w_c15
  · exact w_c16
  · exact w_c17
  · exact w_c18
set_option maxRecDepth 65536 in
theorem w_t1 : (words1.take 24).all (fun c => isCode c || c.before args0 about1) = true := by decide +kernel
set_option maxRecDepth 65536 in
theorem w_t2 : ((words1.drop 24).take 24).all (fun c => isCode c || c.before args0 about1) = true := by decide +kernel
set_option maxRecDepth 65536 in
theorem w_t3 : (((words1.drop 24).drop 24).take 24).all (fun c => isCode c || c.before args0 about1) = true := by decide +kernel
set_option maxRecDepth 65536 in
theorem w_t4 : ((((words1.drop 24).drop 24).drop 24).take 24).all (fun c => isCode c || c.before args0 about1) = true := by decide +kernel
set_option maxRecDepth 65536 in
theorem w_t5 : (((((words1.drop 24).drop 24).drop 24).drop 24).take 24).all (fun c => isCode c || c.before args0 about1) = true := by decide +kernel
set_option maxRecDepth 65536 in
theorem w_t6 : (((((words1.drop 24).drop 24).drop 24).drop 24).drop 24).all (fun c => isCode c || c.before args0 about1) = true := by decide +kernel
theorem w_tables : (allAtoms (Jvm.Cond.code x code maxLocals ret :: tables_1)).before args0 about1 = true := by
  rw [allAtoms_all]
  show words1.all (fun c => c.before args0 about1) = true
  refine all_split ?_ w_codes
  rw [← List.take_append_drop 24 words1, List.all_append, w_t1, ← List.take_append_drop 24 (words1.drop 24), List.all_append, w_t2, ← List.take_append_drop 24 ((words1.drop 24).drop 24), List.all_append, w_t3, ← List.take_append_drop 24 (((words1.drop 24).drop 24).drop 24), List.all_append, w_t4, ← List.take_append_drop 24 ((((words1.drop 24).drop 24).drop 24).drop 24), List.all_append, w_t5, w_t6]
  rfl
set_option maxRecDepth 65536 in
theorem w_case : (Jvm.Cond.and given_1 narrow_1).before args0 about1 = true := by decide +kernel
theorem w_applies : (headSpec (Jvm.Cond.code x code maxLocals ret :: tables_1) room_1).applies x e0.platform about1 = true :=
  (Spec.applies_iff w_frames).mpr ⟨w_running, w_runnable, w_alone, w_named, w_hears, w_ripe, w_room, w_tables⟩
theorem atStart : AtStart classFile x code maxLocals ret World_1 tables_1 room_1 Calls_1 rest_1 Pre_1 launch0 p0 e0 about1 theMethod args0 below0 :=
  ⟨lists_1, trivial, launch0.admits_env _ _ _, launch0.least_env, fairChoices_fair.cas, fairChoices_fair.clock, w_frames, w_args, w_heap, w_applies, trivial, trivial, w_case⟩
end start1
theorem witness_1 : WitnessClaimed_1 := ⟨start1.p0, start1.e0, start1.about1, start1.theMethod, start1.args0, start1.below0, start1.atStart⟩
end Jvm.Pilot.@@N@@
