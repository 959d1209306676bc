import JvmDerived
import JvmDerived.Pilot.@@N@@Statement
import JvmDerived.Pilot.@@N@@Code
set_option linter.unusedVariables false
set_option linter.unusedSimpArgs false
namespace Jvm.Pilot.@@N@@
open Jvm Jvm.ClassFile Sem Op Lib Jvm.Free Jvm.Stand Jvm.LawKit Jvm.RoadKit Bundle Jvm.Pilot.@@N@@.Jvm.D
def own_Go (p : Program) (e : Env) (below : List Frame) (G : State → Outcome → Prop) (σ : State) : Prop := ∃ U o, Steps p.tables e below σ U ∧ U.status = .running ∧ Ended U below o ∧ G U o
theorem own_go {p : Program} {e : Env} {below : List Frame} {G : State → Outcome → Prop} {σ σ' : State} (h : ∀ t, Steps p.tables e below σ' t → Steps p.tables e below σ t) (k : own_Go p e below G σ') : own_Go p e below G σ := by
  obtain ⟨U, o, h1, h2⟩ := k
  exact ⟨U, o, h _ h1, h2⟩
def own_Post (s : State) (Q : Option Value → Heap → List Loc → Prop) (C S : Nat) (U : State) (o : Outcome) : Prop := ∃ v L, o = .returned v ∧ Q v U.heap L ∧ FrameEnd s o U L C S
theorem own_ltL {x y : Int64} (h : x < y) : ifCond.holds .lt (lcmpW x y) = true ∧ ifCond.holds .ge (lcmpW x y) = false := by
  have q := (lw_lt x y).mpr h
  exact ⟨(if0 _ _).trans (tlt q).1, (if0 _ _).trans (tlt q).2.1⟩
theorem own_nltL {x y : Int64} (h : ¬ x < y) : ifCond.holds .lt (lcmpW x y) = false ∧ ifCond.holds .ge (lcmpW x y) = true := by
  have q := fun z => h ((lw_lt x y).mp z)
  exact ⟨(if0 _ _).trans (flt q).1, (if0 _ _).trans (flt q).2.1⟩
section OwnSteps
variable {p : Program} {l : Launch} {e : Env} {R : Room} {s : State} {m : MethodId} {args : Array Value} {below : List Frame} {meth : Method} {c : Code} {T : State} {locs : List Loc} {cells slots : Nat} {G : State → Outcome → Prop} {Ls : Array Slot} {rest : List Value} {pc : Nat}
theorem own_iloadN (X : Stand p l e R s m args below meth c T locs cells slots) (hx : p.tables.exec = Jvm.exec) {i : Fin 4} {v : Int32} (hd : decode c.code pc = .ok (.iload_n i, 1)) (hl : Ls[i.val]? = some (.val (.int v))) (pc' : Nat) (hp : pc + 1 = pc') (k : own_Go p e below G (T.setTop (mkF m pc' Ls (.int v :: rest)))) : own_Go p e below G (T.setTop (mkF m pc Ls (rest))) := by
  subst hp; exact own_go (fun t q => XS.iloadN X.here hx rfl hd hl q) k
theorem own_iload (X : Stand p l e R s m args below meth c T locs cells slots) (hx : p.tables.exec = Jvm.exec) {i : Nat} {v : Int32} (hd : decode c.code pc = .ok (.iload i, 2)) (hl : Ls[i]? = some (.val (.int v))) (pc' : Nat) (hp : pc + 2 = pc') (k : own_Go p e below G (T.setTop (mkF m pc' Ls (.int v :: rest)))) : own_Go p e below G (T.setTop (mkF m pc Ls (rest))) := by
  subst hp; exact own_go (fun t q => XS.iload X.here hx rfl hd hl q) k
theorem own_lloadN (X : Stand p l e R s m args below meth c T locs cells slots) (hx : p.tables.exec = Jvm.exec) {i : Fin 4} {v : Int64} (hd : decode c.code pc = .ok (.lload_n i, 1)) (hl : Ls[i.val]? = some (.val (.long v))) (pc' : Nat) (hp : pc + 1 = pc') (k : own_Go p e below G (T.setTop (mkF m pc' Ls (.long v :: rest)))) : own_Go p e below G (T.setTop (mkF m pc Ls (rest))) := by
  subst hp; exact own_go (fun t q => XS.lloadN X.here hx rfl hd hl q) k
theorem own_lload (X : Stand p l e R s m args below meth c T locs cells slots) (hx : p.tables.exec = Jvm.exec) {i : Nat} {v : Int64} (hd : decode c.code pc = .ok (.lload i, 2)) (hl : Ls[i]? = some (.val (.long v))) (pc' : Nat) (hp : pc + 2 = pc') (k : own_Go p e below G (T.setTop (mkF m pc' Ls (.long v :: rest)))) : own_Go p e below G (T.setTop (mkF m pc Ls (rest))) := by
  subst hp; exact own_go (fun t q => XS.lload X.here hx rfl hd hl q) k
theorem own_aloadN (X : Stand p l e R s m args below meth c T locs cells slots) (hx : p.tables.exec = Jvm.exec) {i : Fin 4} {v : Value} (hd : decode c.code pc = .ok (.aload_n i, 1)) (hl : Ls[i.val]? = some (.val v)) (hv : v.isRef = true) (pc' : Nat) (hp : pc + 1 = pc') (k : own_Go p e below G (T.setTop (mkF m pc' Ls (v :: rest)))) : own_Go p e below G (T.setTop (mkF m pc Ls (rest))) := by
  subst hp; exact own_go (fun t q => XS.aloadN X.here hx rfl hd hl hv q) k
theorem own_aload (X : Stand p l e R s m args below meth c T locs cells slots) (hx : p.tables.exec = Jvm.exec) {i : Nat} {v : Value} (hd : decode c.code pc = .ok (.aload i, 2)) (hl : Ls[i]? = some (.val v)) (hv : v.isRef = true) (pc' : Nat) (hp : pc + 2 = pc') (k : own_Go p e below G (T.setTop (mkF m pc' Ls (v :: rest)))) : own_Go p e below G (T.setTop (mkF m pc Ls (rest))) := by
  subst hp; exact own_go (fun t q => XS.aload X.here hx rfl hd hl hv q) k
theorem own_istore (X : Stand p l e R s m args below meth c T locs cells slots) (hx : p.tables.exec = Jvm.exec) {i : Nat} {v : Int32} (hd : decode c.code pc = .ok (.istore i, 2)) (l' : Array Slot) (hl : storeLocals Ls i (.int v) = some l') (pc' : Nat) (hp : pc + 2 = pc') (k : own_Go p e below G (T.setTop (mkF m pc' l' (rest)))) : own_Go p e below G (T.setTop (mkF m pc Ls (.int v :: rest))) := by
  subst hp; exact own_go (fun t q => XS.istore X.here hx rfl hd rfl hl q) k
theorem own_lstore (X : Stand p l e R s m args below meth c T locs cells slots) (hx : p.tables.exec = Jvm.exec) {i : Nat} {v : Int64} (hd : decode c.code pc = .ok (.lstore i, 2)) (l' : Array Slot) (hl : storeLocals Ls i (.long v) = some l') (pc' : Nat) (hp : pc + 2 = pc') (k : own_Go p e below G (T.setTop (mkF m pc' l' (rest)))) : own_Go p e below G (T.setTop (mkF m pc Ls (.long v :: rest))) := by
  subst hp; exact own_go (fun t q => XS.lstore X.here hx rfl hd rfl hl q) k
theorem own_astore (X : Stand p l e R s m args below meth c T locs cells slots) (hx : p.tables.exec = Jvm.exec) {i : Nat} {v : Value} (hd : decode c.code pc = .ok (.astore i, 2)) (hv : v.isRef = true) (l' : Array Slot) (hl : storeLocals Ls i v = some l') (pc' : Nat) (hp : pc + 2 = pc') (k : own_Go p e below G (T.setTop (mkF m pc' l' (rest)))) : own_Go p e below G (T.setTop (mkF m pc Ls (v :: rest))) := by
  subst hp; exact own_go (fun t q => XS.astore X.here hx rfl hd rfl hv hl q) k
theorem own_iconst (X : Stand p l e R s m args below meth c T locs cells slots) (hx : p.tables.exec = Jvm.exec) {i : Int} (hd : decode c.code pc = .ok (.iconst i, 1)) (v : Int32) (hv : v = Int32.ofInt i) (pc' : Nat) (hp : pc + 1 = pc') (k : own_Go p e below G (T.setTop (mkF m pc' Ls (.int v :: rest)))) : own_Go p e below G (T.setTop (mkF m pc Ls (rest))) := by
  subst hp; exact own_go (fun t q => XS.iconst X.here hx rfl hd (hv ▸ q)) k
theorem own_bipush (X : Stand p l e R s m args below meth c T locs cells slots) (hx : p.tables.exec = Jvm.exec) {i : Int} (hd : decode c.code pc = .ok (.bipush i, 2)) (v : Int32) (hv : v = (Int8.ofInt i).toInt32) (pc' : Nat) (hp : pc + 2 = pc') (k : own_Go p e below G (T.setTop (mkF m pc' Ls (.int v :: rest)))) : own_Go p e below G (T.setTop (mkF m pc Ls (rest))) := by
  subst hp; exact own_go (fun t q => XS.bipush X.here hx rfl hd (hv ▸ q)) k
theorem own_lconst (X : Stand p l e R s m args below meth c T locs cells slots) (hx : p.tables.exec = Jvm.exec) {i : Fin 2} (hd : decode c.code pc = .ok (.lconst i, 1)) (v : Int64) (hv : v = Int64.ofNat i) (pc' : Nat) (hp : pc + 1 = pc') (k : own_Go p e below G (T.setTop (mkF m pc' Ls (.long v :: rest)))) : own_Go p e below G (T.setTop (mkF m pc Ls (rest))) := by
  subst hp; exact own_go (fun t q => XS.lconst X.here hx rfl hd (hv ▸ q)) k
theorem own_ldc2Long (X : Stand p l e R s m args below meth c T locs cells slots) (hx : p.tables.exec = Jvm.exec) {own : String} {index : Nat} {v : Int64} (hown : s.vm.findClass own = some m.cls) (hc : (Cond.constantLong own index v).before args s = true) (hd : decode c.code pc = .ok (.ldc2_w index, 3)) (pc' : Nat) (hp : pc + 3 = pc') (k : own_Go p e below G (T.setTop (mkF m pc' Ls (.long v :: rest)))) : own_Go p e below G (T.setTop (mkF m pc Ls rest)) := by
  subst hp; exact own_go (X.ldc2Long hx hown hc (g := mkF m pc Ls rest) rfl hd) k
theorem own_iand (X : Stand p l e R s m args below meth c T locs cells slots) (hx : p.tables.exec = Jvm.exec) {x y : Int32} (hd : decode c.code pc = .ok (.iand, 1)) (pc' : Nat) (hp : pc + 1 = pc') (k : own_Go p e below G (T.setTop (mkF m pc' Ls (.int (x &&& y) :: rest)))) : own_Go p e below G (T.setTop (mkF m pc Ls (.int y :: .int x :: rest))) := by
  subst hp; exact own_go (fun t q => XS.iand X.here hx rfl hd rfl q) k
theorem own_ladd (X : Stand p l e R s m args below meth c T locs cells slots) (hx : p.tables.exec = Jvm.exec) {x y : Int64} (hd : decode c.code pc = .ok (.ladd, 1)) (pc' : Nat) (hp : pc + 1 = pc') (k : own_Go p e below G (T.setTop (mkF m pc' Ls (.long (x + y) :: rest)))) : own_Go p e below G (T.setTop (mkF m pc Ls (.long y :: .long x :: rest))) := by
  subst hp; exact own_go (fun t q => XS.ladd X.here hx rfl hd rfl q) k
theorem own_lsub (X : Stand p l e R s m args below meth c T locs cells slots) (hx : p.tables.exec = Jvm.exec) {x y : Int64} (hd : decode c.code pc = .ok (.lsub, 1)) (pc' : Nat) (hp : pc + 1 = pc') (k : own_Go p e below G (T.setTop (mkF m pc' Ls (.long (x - y) :: rest)))) : own_Go p e below G (T.setTop (mkF m pc Ls (.long y :: .long x :: rest))) := by
  subst hp; exact own_go (fun t q => XS.lsub X.here hx rfl hd rfl q) k
theorem own_irem (X : Stand p l e R s m args below meth c T locs cells slots) (hx : p.tables.exec = Jvm.exec) {x y : Int32} (hd : decode c.code pc = .ok (.irem, 1)) (hy : y ≠ 0) (pc' : Nat) (hp : pc + 1 = pc') (k : own_Go p e below G (T.setTop (mkF m pc' Ls (.int (x % y) :: rest)))) : own_Go p e below G (T.setTop (mkF m pc Ls (.int y :: .int x :: rest))) := by
  subst hp; exact own_go (fun t q => iremM X hx rfl hd rfl hy q) k
theorem own_dup (X : Stand p l e R s m args below meth c T locs cells slots) (hx : p.tables.exec = Jvm.exec) {x : Value} (hd : decode c.code pc = .ok (.dup, 1)) (hc : x.category = 1) (pc' : Nat) (hp : pc + 1 = pc') (k : own_Go p e below G (T.setTop (mkF m pc' Ls (x :: x :: rest)))) : own_Go p e below G (T.setTop (mkF m pc Ls (x :: rest))) := by
  subst hp; exact own_go (fun t q => XS.dup X.here hx rfl hd rfl hc q) k
theorem own_pop (X : Stand p l e R s m args below meth c T locs cells slots) (hx : p.tables.exec = Jvm.exec) {x : Value} (hd : decode c.code pc = .ok (.pop, 1)) (hc : x.category = 1) (pc' : Nat) (hp : pc + 1 = pc') (k : own_Go p e below G (T.setTop (mkF m pc' Ls (rest)))) : own_Go p e below G (T.setTop (mkF m pc Ls (x :: rest))) := by
  subst hp; exact own_go (fun t q => XS.pop X.here hx rfl hd rfl hc q) k
theorem own_lcmp (X : Stand p l e R s m args below meth c T locs cells slots) (hx : p.tables.exec = Jvm.exec) {x y : Int64} (hd : decode c.code pc = .ok (.lcmp, 1)) (pc' : Nat) (hp : pc + 1 = pc') (k : own_Go p e below G (T.setTop (mkF m pc' Ls (.int (lcmpW x y) :: rest)))) : own_Go p e below G (T.setTop (mkF m pc Ls (.long y :: .long x :: rest))) := by
  subst hp; exact own_go (fun t q => XS.lcmp X.here hx rfl hd rfl q) k
theorem own_goto (X : Stand p l e R s m args below meth c T locs cells slots) (hx : p.tables.exec = Jvm.exec) {o : Int} (hd : decode c.code pc = .ok (.goto o, 3)) (pc' : Nat) (hp : 0 ≤ (pc : Int) + o ∧ ((pc : Int) + o).toNat = pc') (k : own_Go p e below G (T.setTop (mkF m pc' Ls rest))) : own_Go p e below G (T.setTop (mkF m pc Ls rest)) :=
  own_go (fun t q => XS.goto X.here hx rfl (pc0 := pc) (pc' := pc') rfl hd hp.1 hp.2 q) k
theorem own_ifY (X : Stand p l e R s m args below meth c T locs cells slots) (hx : p.tables.exec = Jvm.exec) {o : Int} {cd : ClassFile.Cond} {x : Int32} (hd : decode c.code pc = .ok (.ifCond cd o, 3)) (hc : ifCond.holds cd x = true) (pc' : Nat) (hp : 0 ≤ (pc : Int) + o ∧ ((pc : Int) + o).toNat = pc') (k : own_Go p e below G (T.setTop (mkF m pc' Ls rest))) : own_Go p e below G (T.setTop (mkF m pc Ls (.int x :: rest))) :=
  own_go (fun t q => XS.ifYes X.here hx rfl (pc0 := pc) (pc' := pc') rfl hd rfl hc hp.1 hp.2 q) k
theorem own_ifN (X : Stand p l e R s m args below meth c T locs cells slots) (hx : p.tables.exec = Jvm.exec) {o : Int} {cd : ClassFile.Cond} {x : Int32} (hd : decode c.code pc = .ok (.ifCond cd o, 3)) (hc : ifCond.holds cd x = false) (pc' : Nat) (hp : pc + 3 = pc') (k : own_Go p e below G (T.setTop (mkF m pc' Ls (rest)))) : own_Go p e below G (T.setTop (mkF m pc Ls (.int x :: rest))) := by
  subst hp; exact own_go (fun t q => XS.ifNo X.here hx rfl hd rfl hc q) k
theorem own_icmpY (X : Stand p l e R s m args below meth c T locs cells slots) (hx : p.tables.exec = Jvm.exec) {o : Int} {cd : ClassFile.Cond} {x y : Int32} (hd : decode c.code pc = .ok (.if_icmp cd o, 3)) (hc : if_icmp.holds cd x y = true) (pc' : Nat) (hp : 0 ≤ (pc : Int) + o ∧ ((pc : Int) + o).toNat = pc') (k : own_Go p e below G (T.setTop (mkF m pc' Ls rest))) : own_Go p e below G (T.setTop (mkF m pc Ls (.int y :: .int x :: rest))) :=
  own_go (fun t q => XS.icmpYes X.here hx rfl (pc0 := pc) (pc' := pc') rfl hd rfl hc hp.1 hp.2 q) k
theorem own_icmpN (X : Stand p l e R s m args below meth c T locs cells slots) (hx : p.tables.exec = Jvm.exec) {o : Int} {cd : ClassFile.Cond} {x y : Int32} (hd : decode c.code pc = .ok (.if_icmp cd o, 3)) (hc : if_icmp.holds cd x y = false) (pc' : Nat) (hp : pc + 3 = pc') (k : own_Go p e below G (T.setTop (mkF m pc' Ls (rest)))) : own_Go p e below G (T.setTop (mkF m pc Ls (.int y :: .int x :: rest))) := by
  subst hp; exact own_go (fun t q => XS.icmpNo X.here hx rfl hd rfl hc q) k
theorem own_ret {f : JFrame} {Q : Option Value → Heap → List Loc → Prop} {C S : Nat} (X : Stand p l e R s m args below meth c T locs cells slots) (hlk : meth.locks = false) (hG : own_Post s Q C S = G) {v : Option Value} (hv : meth.sig.returnType = none → v = none)
    (st : ∀ fs, (∀ (f : JFrame) (acts : List Action), f.method = m → f.locked = none → f.entered = [] → (doReturn e (T.setTop f) acts v).1 = T.setFrames fs) → Steps p.tables e below (T.setTop f) (T.setFrames fs)) (hc : cells ≤ C) (hs : slots ≤ S) (hq : Q v T.heap locs) : own_Go p e below G (T.setTop f) := by
  subst hG
  obtain ⟨fs, hr, hrun, hended, hW, hsame⟩ := X.leave (v := v) hv hlk
  exact ⟨_, _, st fs hr, hrun, hended, _, _, rfl, hq, ⟨_, rfl⟩, hW, hsame.mono hc hs⟩
theorem own_nreturn {z : Int32} {ty : FieldType} {Q : Option Value → Heap → List Loc → Prop} {C S : Nat} (X : Stand p l e R s m args below meth c T locs cells slots) (hx : p.tables.exec = Jvm.exec) (hlk : meth.locks = false) (hG : own_Post s Q C S = G) (hret : meth.sig.returnType = some ty) (ht : ty = .boolean ∨ ty = .byte ∨ ty = .char ∨ ty = .short) (hd : decode c.code pc = .ok (.ireturn, 1)) (hc : cells ≤ C) (hs : slots ≤ S) (hq : Q (some (.int (nar ty z))) T.heap locs) : own_Go p e below G (T.setTop (mkF m pc Ls (.int z :: rest))) :=
  own_ret X hlk hG (fun h => by rw [hret] at h; cases h) (fun fs hr => retN X hx hret ht hd hr) hc hs hq
theorem own_return {Q : Option Value → Heap → List Loc → Prop} {C S : Nat} (X : Stand p l e R s m args below meth c T locs cells slots) (hx : p.tables.exec = Jvm.exec) (hlk : meth.locks = false) (hG : own_Post s Q C S = G) (hret : meth.sig.returnType = none) (hd : decode c.code pc = .ok (.return_, 1)) (hc : cells ≤ C) (hs : slots ≤ S) (hq : Q none T.heap locs) : own_Go p e below G (T.setTop (mkF m pc Ls [])) :=
  own_ret X hlk hG (fun _ => rfl) (fun fs hr => X.returnOut hx hret hd hr) hc hs hq
variable {Z : State} {a0 : Array Value} {h : Heap}
theorem own_getF (X : Stand p l e R s m args below meth c T locs cells slots) (hx : p.tables.exec = Jvm.exec) (hZ : Z.Warmed39 s.vm) {own R0 O n d : String} {index : Nat} (hown : s.vm.findClass own = some m.cls) (w : (Cond.fieldLink own index R0 n d).before a0 Z = true) (via : Via Z R0 O n d) (eT : T.heap = h) {a : Addr} {v : Value} (F : Fld Z h a O n d v) (hd : decode c.code pc = .ok (.getfield index, 3)) (pc' : Nat) (hp : pc + 3 = pc')
    (k : ∀ T' : State, Stand p l e R s m args below meth c T' locs cells slots → T'.heap = h → own_Go p e below G (T'.setTop (mkF m pc' Ls (v :: rest)))) : own_Go p e below G (T.setTop (mkF m pc Ls (.ref a :: rest))) := by
  subst hp
  obtain ⟨T', X', e', st⟩ := getF X hx hZ hown (host := "") (Or.inl w) via eT F (g := mkF m pc Ls (.ref a :: rest)) rfl rfl hd
  exact own_go st (k T' X' e')
theorem own_getS (X : Stand p l e R s m args below meth c T locs cells slots) (hx : p.tables.exec = Jvm.exec) (hZ : Z.Warmed39 s.vm) {own R0 O n d : String} {index : Nat} (hown : s.vm.findClass own = some m.cls) (w : (Cond.fieldLink own index R0 n d).before a0 Z = true) (via : Via Z R0 O n d) (eT : T.heap = h) {v : Value} (F : Sta Z h O n d v) (hd : decode c.code pc = .ok (.getstatic index, 3)) (pc' : Nat) (hp : pc + 3 = pc')
    (k : ∀ T' : State, Stand p l e R s m args below meth c T' locs cells slots → T'.heap = h → own_Go p e below G (T'.setTop (mkF m pc' Ls (v :: rest)))) : own_Go p e below G (T.setTop (mkF m pc Ls rest)) := by
  subst hp
  obtain ⟨T', X', e', st⟩ := getS2 X hx hZ hown (host := "") (Or.inl w) via eT F (g := mkF m pc Ls rest) rfl hd
  exact own_go st (k T' X' e')
theorem own_putF (X : Stand p l e R s m args below meth c T locs cells slots) (hx : p.tables.exec = Jvm.exec) (hZ : Z.Warmed39 s.vm) {own R0 O n d C : String} {index kk : Nat} {ty : FieldType} (hown : s.vm.findClass own = some m.cls) (w : (Cond.fieldLink own index R0 n d).before a0 Z = true) (via : Via Z R0 O n d) (eT : T.heap = h) {a : Addr} {v v' old : Value} (F : Fld Z h a O n d old) (E : Exa Z h a C) (L : (Cond.lays C O n d).before a0 Z = true ∨ ((Cond.laysFinal C O n d).before a0 Z = true ∧ own = O ∧ meth.name = "<init>")) (wi : (Cond.instantiable C kk).before a0 Z = true) (hty : parseFieldDescriptor d = some ty) (hn : narrow ty v = v') (hf : fits ty v' = true) (hd : decode c.code pc = .ok (.putfield index, 3)) (pc' : Nat) (hp : pc + 3 = pc')
    (k : ∀ (T' : State) (h' : Heap), Stand p l e R s m args below meth c T' (locs ++ [⟨a, Jvm.RoadKit.slotOf Z O n d⟩]) cells slots → T'.heap = h' → Wr h h' a (Jvm.RoadKit.slotOf Z O n d) v' → own_Go p e below G (T'.setTop (mkF m pc' Ls rest))) : own_Go p e below G (T.setTop (mkF m pc Ls (v :: .ref a :: rest))) := by
  subst hp
  obtain ⟨T', h', X', e', W, st⟩ := putFN X hx hZ hown w via eT F E L wi hty hn hf (g := mkF m pc Ls (v :: .ref a :: rest)) rfl rfl hd
  exact own_go st (k T' h' X' e' W)
theorem own_newO (X : Stand p l e R s m args below meth c T locs cells slots) (hx : p.tables.exec = Jvm.exec) (hZ : Z.Warmed39 s.vm) {own C : String} {index n : Nat} (hown : s.vm.findClass own = some m.cls) (w : (Cond.classLink own index C).before a0 Z = true) (wi : (Cond.instantiable C n).before a0 Z = true) (wz : (Cond.initialized C).before a0 Z = true) (eT : T.heap = h) (hd : decode c.code pc = .ok (.new index, 3)) (hc : cells + 1 ≤ R.cells) (hl : slots + n ≤ R.slots) (pc' : Nat) (hp : pc + 3 = pc')
    (k : ∀ (T' : State) (h' : Heap) (a' : Addr), a' = h.size → Stand p l e R s m args below meth c T' locs (cells + 1) (slots + n) → T'.heap = h' → Ext h h' → Exa Z h' a' C → (∀ {O nm d : String} {ty : FieldType}, Laid Z a0 C O nm d → parseFieldDescriptor d = some ty → Fld Z h' a' O nm d (defaultValue ty)) → own_Go p e below G (T'.setTop (mkF m pc' Ls (.ref a' :: rest)))) : own_Go p e below G (T.setTop (mkF m pc Ls rest)) := by
  subst hp
  obtain ⟨T', h', X', e', E', A', D', -, st⟩ := newO X hx hZ hown w wi wz eT (g := mkF m pc Ls rest) rfl hd hc hl
  exact own_go st (k T' h' _ rfl X' e' E' A' D')
theorem own_initO (X : Stand p l e R s m args below meth c T locs cells slots) (hx : p.tables.exec = Jvm.exec) (hZ : Z.Warmed39 s.vm) {own : String} {idx : Nat} (hown : s.vm.findClass own = some m.cls) (w1 : (Cond.methodLink own idx Lib.objectInit).before a0 Z = true) (w2 : (Cond.instanceMethod Lib.objectInit).before a0 Z = true) (w3 : (Cond.code Lib.objectInit object_method_1_code 1 none).before a0 Z = true) (eT : T.heap = h) (hsize : Ls.size = c.maxLocals) {a : Addr} (hd : decode c.code pc = .ok (.invokespecial idx, 3)) (hf : 1 ≤ R.frames) (W : Nat) (hW : (rest.map fun v => v.category).sum ≤ W) (hl : W + 12 ≤ R.locals) (pc' : Nat) (hp : pc + 3 = pc')
    (k : ∀ T' : State, Stand p l e R s m args below meth c T' locs cells slots → T'.heap = h → own_Go p e below G (T'.setTop (mkF m pc' Ls rest))) : own_Go p e below G (T.setTop (mkF m pc Ls (.ref a :: rest))) := by
  subst hp
  obtain ⟨T', X', e', st⟩ := initO X hx hZ hown w1 w2 w3 eT (g := mkF m pc Ls (.ref a :: rest)) rfl hsize rfl hd hf (W := W) (by show 2 * 0 + _ ≤ W; rw [Nat.mul_zero, Nat.zero_add]; exact hW) hl
  exact own_go st (k T' X' e')
theorem own_callI {bytes : ByteArray} {maxL : Nat} {rm : Room} {y : MethodName} {argsL : List Value} {Q : Option Value → Heap → List Loc → Prop} (X : Stand p l e R s m args below meth c T locs cells slots) (hx : p.tables.exec = Jvm.exec) (hZ : Z.Warmed39 s.vm) (hy1 : y.name = "<init>") {own : String} {index : Nat} (hown : s.vm.findClass own = some m.cls) (w1 : (Cond.methodLink own index y).before a0 Z = true) (w2 : (Cond.instanceMethod y).before a0 Z = true) (w3 : (Cond.initialized y.cls).before a0 Z = true) (w4 : (Cond.code y bytes maxL none).before a0 Z = true) (hy : y.cls ≠ "java/lang/invoke/MethodHandle" ∧ y.cls ≠ "java/lang/invoke/VarHandle") (eT : T.heap = h) {b : Addr}
    (hM : MetFree l y (head1 [Cond.code y bytes maxL none] rm) (fun a U => a = (.ref b :: argsL).toArray ∧ Z.Warmed39 U.vm ∧ U.heap = h) (fun _ _ _ _ _ => True) (fun _ U o U' => ∃ v L, o = .returned v ∧ Q v U'.heap L ∧ FrameEnd U o U' L rm.cells rm.slots))
    (hsize : Ls.size = c.maxLocals) {ps : List FieldType} {rt : Option FieldType} (hdesc : parseMethodDescriptor y.desc = some ⟨ps, rt⟩) (hlen : argsL.length = ps.length) {st : List Value} (hst : st = argsL.reverse ++ .ref b :: rest) (hd : decode c.code pc = .ok (.invokespecial index, 3)) (W : Nat) (hW : (rest.map fun v => v.category).sum ≤ W) (hf : rm.frames + 1 ≤ R.frames) (hl : W + (maxL + 11) + rm.locals ≤ R.locals) (hc : cells + rm.cells ≤ R.cells) (hs : slots + rm.slots ≤ R.slots) (pc' : Nat) (hp : pc + 3 = pc')
    (k : ∀ (T' : State) (L : List Loc) (v : Option Value), Stand p l e R s m args below meth c T' (locs ++ L) (cells + rm.cells) (slots + rm.slots) → Q v T'.heap L → own_Go p e below G (T'.setTop (mkF m pc' Ls (v.toList ++ rest)))) : own_Go p e below G (T.setTop (mkF m pc Ls st)) := by
  subst hp hst
  obtain ⟨v, _, ⟨T', L', k', n'⟩, -, X', ⟨Lc, hQ, l', y', z'⟩, st⟩ := X.specialBack hx hy1 hown (mvT hZ w1) (mvT hZ w2) (mvT hZ w4) hy (backOf (W := W) hM hZ w4 w3 hf hl) (g := mkF m pc Ls (argsL.reverse ++ .ref b :: rest)) rfl hsize (Steps.refl _) (a := b) (argsL := argsL) (rest := rest) (lenOf hdesc hlen) rfl (by show 2 * 0 + _ ≤ W; rw [Nat.mul_zero, Nat.zero_add]; exact hW) hd (fun _ _ => ⟨rfl, eT, hc, hs⟩)
  dsimp only [Pt.U, Pt.locs, Pt.cells, Pt.slots] at X' l' y' z' st hQ
  subst l' y' z'
  exact own_go (fun t q => st.trans q) (k T' Lc v X' hQ)
theorem own_callV {bytes : ByteArray} {maxL : Nat} {ret : Option FieldType} {rm : Room} {y z : MethodName} {argsL : List Value} {Q : Option Value → Heap → List Loc → Prop} (X : Stand p l e R s m args below meth c T locs cells slots) (hx : p.tables.exec = Jvm.exec) (hZ : Z.Warmed39 s.vm) {own C : String} {index : Nat} (hown : s.vm.findClass own = some m.cls) (w1 : (Cond.methodLink own index y).before a0 Z = true) (w2 : (Cond.declares y).before a0 Z = true) (w5 : (Cond.selects C y z).before a0 Z = true) (nf : NotFace s y) (w6 : (Cond.instanceMethod z).before a0 Z = true) (w3 : (Cond.initialized z.cls).before a0 Z = true) (w4 : (Cond.code z bytes maxL ret).before a0 Z = true) (hy : y.cls ≠ "java/lang/invoke/MethodHandle" ∧ y.cls ≠ "java/lang/invoke/VarHandle") (eT : T.heap = h) {b : Addr} (E : Exa Z h b C)
    (hM : MetFree l z (head1 [Cond.code z bytes maxL ret] rm) (fun a U => a = (.ref b :: argsL).toArray ∧ Z.Warmed39 U.vm ∧ U.heap = h) (fun _ _ _ _ _ => True) (fun _ U o U' => ∃ v L, o = .returned v ∧ Q v U'.heap L ∧ FrameEnd U o U' L rm.cells rm.slots))
    (hsize : Ls.size = c.maxLocals) {ps : List FieldType} {rt : Option FieldType} (hdesc : parseMethodDescriptor y.desc = some ⟨ps, rt⟩) (hlen : argsL.length = ps.length) {st : List Value} (hst : st = argsL.reverse ++ .ref b :: rest) (hd : decode c.code pc = .ok (.invokevirtual index, 3)) (W : Nat) (hW : (rest.map fun v => v.category).sum ≤ W) (hf : rm.frames + 1 ≤ R.frames) (hl : W + (maxL + 11) + rm.locals ≤ R.locals) (hc : cells + rm.cells ≤ R.cells) (hs : slots + rm.slots ≤ R.slots) (pc' : Nat) (hp : pc + 3 = pc')
    (k : ∀ (T' : State) (L : List Loc) (v : Option Value), Stand p l e R s m args below meth c T' (locs ++ L) (cells + rm.cells) (slots + rm.slots) → Q v T'.heap L → own_Go p e below G (T'.setTop (mkF m pc' Ls (v.toList ++ rest)))) : own_Go p e below G (T.setTop (mkF m pc Ls st)) := by
  subst hp hst
  obtain ⟨cq, kq, qa, qb, qc⟩ := isOf hZ eT E
  obtain ⟨v, _, ⟨T', L', k', n'⟩, -, X', ⟨Lc, hQ, l', y', z'⟩, st⟩ := X.virtualBack hx (y := y) (z := z) hown (mvT hZ w1) (mvT hZ w2) nf (mvT hZ w5) (mvT hZ w6) hy (backOf (W := W) hM hZ w4 w3 hf hl) qa qc (g := mkF m pc Ls (argsL.reverse ++ .ref b :: rest)) rfl hsize (Steps.refl _) (argsL := argsL) (rest := rest) (lenOf hdesc hlen) rfl (by show 2 * 0 + _ ≤ W; rw [Nat.mul_zero, Nat.zero_add]; exact hW) hd (fun _ _ => ⟨rfl, eT, hc, hs⟩)
  dsimp only [Pt.U, Pt.locs, Pt.cells, Pt.slots] at X' l' y' z' st hQ
  subst l' y' z'
  exact own_go (fun t q => st.trans q) (k T' Lc v X' hQ)
def own_A {α : Type} (ty : FieldType) (f : α → Value) (Z : State) (h : Heap) (a : Addr) (L : List α) : Prop := ∃ cl : Cell, Arr Z h a cl ty ∧ cl.slots = (L.map f).toArray ∧ L.length < 2147483648
section OwnArr
variable {α : Type} {ty : FieldType} {f : α → Value} {h' : Heap} {a b : Addr} {L : List α}
theorem own_A.lt (F : own_A ty f Z h a L) : a < h.size := by obtain ⟨cl, A, -⟩ := F; exact A.lt
theorem own_A.ext (F : own_A ty f Z h a L) (E : Ext h h') : own_A ty f Z h' a L := by obtain ⟨cl, A, r⟩ := F; exact ⟨cl, A.ext E, r⟩
theorem own_A.other {sl : Nat} {v : Value} (F : own_A ty f Z h b L) (W : Wr h h' a sl v) (q : b ≠ a) : own_A ty f Z h' b L := by obtain ⟨cl, A, r⟩ := F; exact ⟨cl, A.other W q, r⟩
theorem own_A.keep {ws : List Addr} (F : own_A ty f Z h a L) (K : Keep h h' ws) (q : a ∉ ws) : own_A ty f Z h' a L := by obtain ⟨cl, A, r⟩ := F; exact ⟨cl, ⟨K.2.1 a cl A.1 q, A.2⟩, r⟩
theorem own_A.len (F : own_A ty f Z h a L) : L.length < 2147483648 := by obtain ⟨cl, A, -, r⟩ := F; exact r
theorem own_A.set {i : Nat} {x : α} (F : own_A ty f Z h a L) (W : Wr h h' a i (f x)) : own_A ty f Z h' a (L.set i x) := by
  obtain ⟨cl, A, r, r'⟩ := F
  refine ⟨_, A.same W, ?_, by simpa using r'⟩
  show cl.slots.setIfInBounds i (f x) = _
  rw [r, List.map_set]; simp
theorem own_idx {j : Int32} {i n : Nat} (hj : j = Int32.ofNat i) (hi : i < n) (hn : n < 2147483648) : ¬ (j < 0 ∨ n ≤ j.toNatClampNeg) ∧ j.toNatClampNeg = i := by
  subst hj
  have q : (Int32.ofNat i).toInt = i := Int32.toInt_ofNat_of_lt (by omega)
  have q2 : (Int32.ofNat i).toNatClampNeg = i := by rw [Int32.toNatClampNeg, q]; rfl
  refine ⟨fun z => z.elim (fun z => ?_) fun z => by omega, q2⟩
  rw [Int32.lt_iff_toInt_lt, q, show (0 : Int32).toInt = 0 from rfl] at z; omega
theorem own_A.new {k : ClassId} {n : Int32} {d : α} (hd : f d = defaultValue ty) (A : Arr Z h a (newA k ty n) ty) (i : Nat) (hn : n = Int32.ofNat i) (hi : i < 2147483648) : own_A ty f Z h a (List.replicate i d) := by
  refine ⟨_, A, ?_, by simpa using hi⟩
  have q := (own_idx hn (Nat.lt_succ_self i) (n := i + 1))
  have q2 : n.toNatClampNeg = i := by
    subst hn
    rw [Int32.toNatClampNeg, Int32.toInt_ofNat_of_lt (by omega)]; rfl
  simp [newA, q2, hd]
end OwnArr
end OwnSteps
theorem own_w {Z : State} {a0 : Array Value} (hw : ∀ d ∈ tables_1, d.before a0 Z = true) (i : Nat) {d : Cond} (h : tables_1[i]? = some d) : d.before a0 Z = true := hw d (List.mem_of_getElem? h)
abbrev oc0 : String := "com/example/causeway/causeway/server/HandoverWait"
section OwnSn
variable {Z : State} {a0 : Array Value}
theorem sn_0 (hw : ∀ d ∈ tables_1, d.before a0 Z = true) : Jvm.RoadKit.slotOf Z oc0 "waitNanos" "J" ≠ Jvm.RoadKit.slotOf Z oc0 "leaseNanos" "J" := slot_ne (C := oc0) (Or.inl (own_w hw 12 rfl)) (Or.inr (own_w hw 10 rfl)) (by decide) (t := .long) (t' := .long) (by decide) (by decide)
theorem sn_1 (hw : ∀ d ∈ tables_1, d.before a0 Z = true) : Jvm.RoadKit.slotOf Z oc0 "retryAfter" "J" ≠ Jvm.RoadKit.slotOf Z oc0 "leaseNanos" "J" := slot_ne (C := oc0) (Or.inl (own_w hw 14 rfl)) (Or.inr (own_w hw 10 rfl)) (by decide) (t := .long) (t' := .long) (by decide) (by decide)
theorem sn_2 (hw : ∀ d ∈ tables_1, d.before a0 Z = true) : Jvm.RoadKit.slotOf Z oc0 "caughtUp" "Z" ≠ Jvm.RoadKit.slotOf Z oc0 "leaseNanos" "J" := slot_ne (C := oc0) (Or.inl (own_w hw 21 rfl)) (Or.inr (own_w hw 10 rfl)) (by decide) (t := .boolean) (t' := .long) (by decide) (by decide)
theorem sn_3 (hw : ∀ d ∈ tables_1, d.before a0 Z = true) : Jvm.RoadKit.slotOf Z oc0 "caughtUpSince" "J" ≠ Jvm.RoadKit.slotOf Z oc0 "leaseNanos" "J" := slot_ne (C := oc0) (Or.inl (own_w hw 23 rfl)) (Or.inr (own_w hw 10 rfl)) (by decide) (t := .long) (t' := .long) (by decide) (by decide)
theorem sn_4 (hw : ∀ d ∈ tables_1, d.before a0 Z = true) : Jvm.RoadKit.slotOf Z oc0 "led" "Z" ≠ Jvm.RoadKit.slotOf Z oc0 "leaseNanos" "J" := slot_ne (C := oc0) (Or.inl (own_w hw 43 rfl)) (Or.inr (own_w hw 10 rfl)) (by decide) (t := .boolean) (t' := .long) (by decide) (by decide)
theorem sn_5 (hw : ∀ d ∈ tables_1, d.before a0 Z = true) : Jvm.RoadKit.slotOf Z oc0 "ledSince" "J" ≠ Jvm.RoadKit.slotOf Z oc0 "leaseNanos" "J" := slot_ne (C := oc0) (Or.inl (own_w hw 45 rfl)) (Or.inr (own_w hw 10 rfl)) (by decide) (t := .long) (t' := .long) (by decide) (by decide)
theorem sn_6 (hw : ∀ d ∈ tables_1, d.before a0 Z = true) : Jvm.RoadKit.slotOf Z oc0 "ledUntil" "J" ≠ Jvm.RoadKit.slotOf Z oc0 "leaseNanos" "J" := slot_ne (C := oc0) (Or.inl (own_w hw 47 rfl)) (Or.inr (own_w hw 10 rfl)) (by decide) (t := .long) (t' := .long) (by decide) (by decide)
theorem sn_7 (hw : ∀ d ∈ tables_1, d.before a0 Z = true) : Jvm.RoadKit.slotOf Z oc0 "leaseNanos" "J" ≠ Jvm.RoadKit.slotOf Z oc0 "waitNanos" "J" := slot_ne (C := oc0) (Or.inr (own_w hw 10 rfl)) (Or.inl (own_w hw 12 rfl)) (by decide) (t := .long) (t' := .long) (by decide) (by decide)
theorem sn_8 (hw : ∀ d ∈ tables_1, d.before a0 Z = true) : Jvm.RoadKit.slotOf Z oc0 "retryAfter" "J" ≠ Jvm.RoadKit.slotOf Z oc0 "waitNanos" "J" := slot_ne (C := oc0) (Or.inl (own_w hw 14 rfl)) (Or.inl (own_w hw 12 rfl)) (by decide) (t := .long) (t' := .long) (by decide) (by decide)
theorem sn_9 (hw : ∀ d ∈ tables_1, d.before a0 Z = true) : Jvm.RoadKit.slotOf Z oc0 "caughtUp" "Z" ≠ Jvm.RoadKit.slotOf Z oc0 "waitNanos" "J" := slot_ne (C := oc0) (Or.inl (own_w hw 21 rfl)) (Or.inl (own_w hw 12 rfl)) (by decide) (t := .boolean) (t' := .long) (by decide) (by decide)
theorem sn_10 (hw : ∀ d ∈ tables_1, d.before a0 Z = true) : Jvm.RoadKit.slotOf Z oc0 "caughtUpSince" "J" ≠ Jvm.RoadKit.slotOf Z oc0 "waitNanos" "J" := slot_ne (C := oc0) (Or.inl (own_w hw 23 rfl)) (Or.inl (own_w hw 12 rfl)) (by decide) (t := .long) (t' := .long) (by decide) (by decide)
theorem sn_11 (hw : ∀ d ∈ tables_1, d.before a0 Z = true) : Jvm.RoadKit.slotOf Z oc0 "led" "Z" ≠ Jvm.RoadKit.slotOf Z oc0 "waitNanos" "J" := slot_ne (C := oc0) (Or.inl (own_w hw 43 rfl)) (Or.inl (own_w hw 12 rfl)) (by decide) (t := .boolean) (t' := .long) (by decide) (by decide)
theorem sn_12 (hw : ∀ d ∈ tables_1, d.before a0 Z = true) : Jvm.RoadKit.slotOf Z oc0 "ledSince" "J" ≠ Jvm.RoadKit.slotOf Z oc0 "waitNanos" "J" := slot_ne (C := oc0) (Or.inl (own_w hw 45 rfl)) (Or.inl (own_w hw 12 rfl)) (by decide) (t := .long) (t' := .long) (by decide) (by decide)
theorem sn_13 (hw : ∀ d ∈ tables_1, d.before a0 Z = true) : Jvm.RoadKit.slotOf Z oc0 "ledUntil" "J" ≠ Jvm.RoadKit.slotOf Z oc0 "waitNanos" "J" := slot_ne (C := oc0) (Or.inl (own_w hw 47 rfl)) (Or.inl (own_w hw 12 rfl)) (by decide) (t := .long) (t' := .long) (by decide) (by decide)
theorem sn_14 (hw : ∀ d ∈ tables_1, d.before a0 Z = true) : Jvm.RoadKit.slotOf Z oc0 "leaseNanos" "J" ≠ Jvm.RoadKit.slotOf Z oc0 "retryAfter" "J" := slot_ne (C := oc0) (Or.inr (own_w hw 10 rfl)) (Or.inl (own_w hw 14 rfl)) (by decide) (t := .long) (t' := .long) (by decide) (by decide)
theorem sn_15 (hw : ∀ d ∈ tables_1, d.before a0 Z = true) : Jvm.RoadKit.slotOf Z oc0 "waitNanos" "J" ≠ Jvm.RoadKit.slotOf Z oc0 "retryAfter" "J" := slot_ne (C := oc0) (Or.inl (own_w hw 12 rfl)) (Or.inl (own_w hw 14 rfl)) (by decide) (t := .long) (t' := .long) (by decide) (by decide)
theorem sn_16 (hw : ∀ d ∈ tables_1, d.before a0 Z = true) : Jvm.RoadKit.slotOf Z oc0 "caughtUp" "Z" ≠ Jvm.RoadKit.slotOf Z oc0 "retryAfter" "J" := slot_ne (C := oc0) (Or.inl (own_w hw 21 rfl)) (Or.inl (own_w hw 14 rfl)) (by decide) (t := .boolean) (t' := .long) (by decide) (by decide)
theorem sn_17 (hw : ∀ d ∈ tables_1, d.before a0 Z = true) : Jvm.RoadKit.slotOf Z oc0 "caughtUpSince" "J" ≠ Jvm.RoadKit.slotOf Z oc0 "retryAfter" "J" := slot_ne (C := oc0) (Or.inl (own_w hw 23 rfl)) (Or.inl (own_w hw 14 rfl)) (by decide) (t := .long) (t' := .long) (by decide) (by decide)
theorem sn_18 (hw : ∀ d ∈ tables_1, d.before a0 Z = true) : Jvm.RoadKit.slotOf Z oc0 "led" "Z" ≠ Jvm.RoadKit.slotOf Z oc0 "retryAfter" "J" := slot_ne (C := oc0) (Or.inl (own_w hw 43 rfl)) (Or.inl (own_w hw 14 rfl)) (by decide) (t := .boolean) (t' := .long) (by decide) (by decide)
theorem sn_19 (hw : ∀ d ∈ tables_1, d.before a0 Z = true) : Jvm.RoadKit.slotOf Z oc0 "ledSince" "J" ≠ Jvm.RoadKit.slotOf Z oc0 "retryAfter" "J" := slot_ne (C := oc0) (Or.inl (own_w hw 45 rfl)) (Or.inl (own_w hw 14 rfl)) (by decide) (t := .long) (t' := .long) (by decide) (by decide)
theorem sn_20 (hw : ∀ d ∈ tables_1, d.before a0 Z = true) : Jvm.RoadKit.slotOf Z oc0 "ledUntil" "J" ≠ Jvm.RoadKit.slotOf Z oc0 "retryAfter" "J" := slot_ne (C := oc0) (Or.inl (own_w hw 47 rfl)) (Or.inl (own_w hw 14 rfl)) (by decide) (t := .long) (t' := .long) (by decide) (by decide)
theorem sn_21 (hw : ∀ d ∈ tables_1, d.before a0 Z = true) : Jvm.RoadKit.slotOf Z oc0 "leaseNanos" "J" ≠ Jvm.RoadKit.slotOf Z oc0 "caughtUp" "Z" := slot_ne (C := oc0) (Or.inr (own_w hw 10 rfl)) (Or.inl (own_w hw 21 rfl)) (by decide) (t := .long) (t' := .boolean) (by decide) (by decide)
theorem sn_22 (hw : ∀ d ∈ tables_1, d.before a0 Z = true) : Jvm.RoadKit.slotOf Z oc0 "waitNanos" "J" ≠ Jvm.RoadKit.slotOf Z oc0 "caughtUp" "Z" := slot_ne (C := oc0) (Or.inl (own_w hw 12 rfl)) (Or.inl (own_w hw 21 rfl)) (by decide) (t := .long) (t' := .boolean) (by decide) (by decide)
theorem sn_23 (hw : ∀ d ∈ tables_1, d.before a0 Z = true) : Jvm.RoadKit.slotOf Z oc0 "retryAfter" "J" ≠ Jvm.RoadKit.slotOf Z oc0 "caughtUp" "Z" := slot_ne (C := oc0) (Or.inl (own_w hw 14 rfl)) (Or.inl (own_w hw 21 rfl)) (by decide) (t := .long) (t' := .boolean) (by decide) (by decide)
theorem sn_24 (hw : ∀ d ∈ tables_1, d.before a0 Z = true) : Jvm.RoadKit.slotOf Z oc0 "caughtUpSince" "J" ≠ Jvm.RoadKit.slotOf Z oc0 "caughtUp" "Z" := slot_ne (C := oc0) (Or.inl (own_w hw 23 rfl)) (Or.inl (own_w hw 21 rfl)) (by decide) (t := .long) (t' := .boolean) (by decide) (by decide)
theorem sn_25 (hw : ∀ d ∈ tables_1, d.before a0 Z = true) : Jvm.RoadKit.slotOf Z oc0 "led" "Z" ≠ Jvm.RoadKit.slotOf Z oc0 "caughtUp" "Z" := slot_ne (C := oc0) (Or.inl (own_w hw 43 rfl)) (Or.inl (own_w hw 21 rfl)) (by decide) (t := .boolean) (t' := .boolean) (by decide) (by decide)
theorem sn_26 (hw : ∀ d ∈ tables_1, d.before a0 Z = true) : Jvm.RoadKit.slotOf Z oc0 "ledSince" "J" ≠ Jvm.RoadKit.slotOf Z oc0 "caughtUp" "Z" := slot_ne (C := oc0) (Or.inl (own_w hw 45 rfl)) (Or.inl (own_w hw 21 rfl)) (by decide) (t := .long) (t' := .boolean) (by decide) (by decide)
theorem sn_27 (hw : ∀ d ∈ tables_1, d.before a0 Z = true) : Jvm.RoadKit.slotOf Z oc0 "ledUntil" "J" ≠ Jvm.RoadKit.slotOf Z oc0 "caughtUp" "Z" := slot_ne (C := oc0) (Or.inl (own_w hw 47 rfl)) (Or.inl (own_w hw 21 rfl)) (by decide) (t := .long) (t' := .boolean) (by decide) (by decide)
theorem sn_28 (hw : ∀ d ∈ tables_1, d.before a0 Z = true) : Jvm.RoadKit.slotOf Z oc0 "leaseNanos" "J" ≠ Jvm.RoadKit.slotOf Z oc0 "caughtUpSince" "J" := slot_ne (C := oc0) (Or.inr (own_w hw 10 rfl)) (Or.inl (own_w hw 23 rfl)) (by decide) (t := .long) (t' := .long) (by decide) (by decide)
theorem sn_29 (hw : ∀ d ∈ tables_1, d.before a0 Z = true) : Jvm.RoadKit.slotOf Z oc0 "waitNanos" "J" ≠ Jvm.RoadKit.slotOf Z oc0 "caughtUpSince" "J" := slot_ne (C := oc0) (Or.inl (own_w hw 12 rfl)) (Or.inl (own_w hw 23 rfl)) (by decide) (t := .long) (t' := .long) (by decide) (by decide)
theorem sn_30 (hw : ∀ d ∈ tables_1, d.before a0 Z = true) : Jvm.RoadKit.slotOf Z oc0 "retryAfter" "J" ≠ Jvm.RoadKit.slotOf Z oc0 "caughtUpSince" "J" := slot_ne (C := oc0) (Or.inl (own_w hw 14 rfl)) (Or.inl (own_w hw 23 rfl)) (by decide) (t := .long) (t' := .long) (by decide) (by decide)
theorem sn_31 (hw : ∀ d ∈ tables_1, d.before a0 Z = true) : Jvm.RoadKit.slotOf Z oc0 "caughtUp" "Z" ≠ Jvm.RoadKit.slotOf Z oc0 "caughtUpSince" "J" := slot_ne (C := oc0) (Or.inl (own_w hw 21 rfl)) (Or.inl (own_w hw 23 rfl)) (by decide) (t := .boolean) (t' := .long) (by decide) (by decide)
theorem sn_32 (hw : ∀ d ∈ tables_1, d.before a0 Z = true) : Jvm.RoadKit.slotOf Z oc0 "led" "Z" ≠ Jvm.RoadKit.slotOf Z oc0 "caughtUpSince" "J" := slot_ne (C := oc0) (Or.inl (own_w hw 43 rfl)) (Or.inl (own_w hw 23 rfl)) (by decide) (t := .boolean) (t' := .long) (by decide) (by decide)
theorem sn_33 (hw : ∀ d ∈ tables_1, d.before a0 Z = true) : Jvm.RoadKit.slotOf Z oc0 "ledSince" "J" ≠ Jvm.RoadKit.slotOf Z oc0 "caughtUpSince" "J" := slot_ne (C := oc0) (Or.inl (own_w hw 45 rfl)) (Or.inl (own_w hw 23 rfl)) (by decide) (t := .long) (t' := .long) (by decide) (by decide)
theorem sn_34 (hw : ∀ d ∈ tables_1, d.before a0 Z = true) : Jvm.RoadKit.slotOf Z oc0 "ledUntil" "J" ≠ Jvm.RoadKit.slotOf Z oc0 "caughtUpSince" "J" := slot_ne (C := oc0) (Or.inl (own_w hw 47 rfl)) (Or.inl (own_w hw 23 rfl)) (by decide) (t := .long) (t' := .long) (by decide) (by decide)
theorem sn_35 (hw : ∀ d ∈ tables_1, d.before a0 Z = true) : Jvm.RoadKit.slotOf Z oc0 "leaseNanos" "J" ≠ Jvm.RoadKit.slotOf Z oc0 "led" "Z" := slot_ne (C := oc0) (Or.inr (own_w hw 10 rfl)) (Or.inl (own_w hw 43 rfl)) (by decide) (t := .long) (t' := .boolean) (by decide) (by decide)
theorem sn_36 (hw : ∀ d ∈ tables_1, d.before a0 Z = true) : Jvm.RoadKit.slotOf Z oc0 "waitNanos" "J" ≠ Jvm.RoadKit.slotOf Z oc0 "led" "Z" := slot_ne (C := oc0) (Or.inl (own_w hw 12 rfl)) (Or.inl (own_w hw 43 rfl)) (by decide) (t := .long) (t' := .boolean) (by decide) (by decide)
theorem sn_37 (hw : ∀ d ∈ tables_1, d.before a0 Z = true) : Jvm.RoadKit.slotOf Z oc0 "retryAfter" "J" ≠ Jvm.RoadKit.slotOf Z oc0 "led" "Z" := slot_ne (C := oc0) (Or.inl (own_w hw 14 rfl)) (Or.inl (own_w hw 43 rfl)) (by decide) (t := .long) (t' := .boolean) (by decide) (by decide)
theorem sn_38 (hw : ∀ d ∈ tables_1, d.before a0 Z = true) : Jvm.RoadKit.slotOf Z oc0 "caughtUp" "Z" ≠ Jvm.RoadKit.slotOf Z oc0 "led" "Z" := slot_ne (C := oc0) (Or.inl (own_w hw 21 rfl)) (Or.inl (own_w hw 43 rfl)) (by decide) (t := .boolean) (t' := .boolean) (by decide) (by decide)
theorem sn_39 (hw : ∀ d ∈ tables_1, d.before a0 Z = true) : Jvm.RoadKit.slotOf Z oc0 "caughtUpSince" "J" ≠ Jvm.RoadKit.slotOf Z oc0 "led" "Z" := slot_ne (C := oc0) (Or.inl (own_w hw 23 rfl)) (Or.inl (own_w hw 43 rfl)) (by decide) (t := .long) (t' := .boolean) (by decide) (by decide)
theorem sn_40 (hw : ∀ d ∈ tables_1, d.before a0 Z = true) : Jvm.RoadKit.slotOf Z oc0 "ledSince" "J" ≠ Jvm.RoadKit.slotOf Z oc0 "led" "Z" := slot_ne (C := oc0) (Or.inl (own_w hw 45 rfl)) (Or.inl (own_w hw 43 rfl)) (by decide) (t := .long) (t' := .boolean) (by decide) (by decide)
theorem sn_41 (hw : ∀ d ∈ tables_1, d.before a0 Z = true) : Jvm.RoadKit.slotOf Z oc0 "ledUntil" "J" ≠ Jvm.RoadKit.slotOf Z oc0 "led" "Z" := slot_ne (C := oc0) (Or.inl (own_w hw 47 rfl)) (Or.inl (own_w hw 43 rfl)) (by decide) (t := .long) (t' := .boolean) (by decide) (by decide)
theorem sn_42 (hw : ∀ d ∈ tables_1, d.before a0 Z = true) : Jvm.RoadKit.slotOf Z oc0 "leaseNanos" "J" ≠ Jvm.RoadKit.slotOf Z oc0 "ledSince" "J" := slot_ne (C := oc0) (Or.inr (own_w hw 10 rfl)) (Or.inl (own_w hw 45 rfl)) (by decide) (t := .long) (t' := .long) (by decide) (by decide)
theorem sn_43 (hw : ∀ d ∈ tables_1, d.before a0 Z = true) : Jvm.RoadKit.slotOf Z oc0 "waitNanos" "J" ≠ Jvm.RoadKit.slotOf Z oc0 "ledSince" "J" := slot_ne (C := oc0) (Or.inl (own_w hw 12 rfl)) (Or.inl (own_w hw 45 rfl)) (by decide) (t := .long) (t' := .long) (by decide) (by decide)
theorem sn_44 (hw : ∀ d ∈ tables_1, d.before a0 Z = true) : Jvm.RoadKit.slotOf Z oc0 "retryAfter" "J" ≠ Jvm.RoadKit.slotOf Z oc0 "ledSince" "J" := slot_ne (C := oc0) (Or.inl (own_w hw 14 rfl)) (Or.inl (own_w hw 45 rfl)) (by decide) (t := .long) (t' := .long) (by decide) (by decide)
theorem sn_45 (hw : ∀ d ∈ tables_1, d.before a0 Z = true) : Jvm.RoadKit.slotOf Z oc0 "caughtUp" "Z" ≠ Jvm.RoadKit.slotOf Z oc0 "ledSince" "J" := slot_ne (C := oc0) (Or.inl (own_w hw 21 rfl)) (Or.inl (own_w hw 45 rfl)) (by decide) (t := .boolean) (t' := .long) (by decide) (by decide)
theorem sn_46 (hw : ∀ d ∈ tables_1, d.before a0 Z = true) : Jvm.RoadKit.slotOf Z oc0 "caughtUpSince" "J" ≠ Jvm.RoadKit.slotOf Z oc0 "ledSince" "J" := slot_ne (C := oc0) (Or.inl (own_w hw 23 rfl)) (Or.inl (own_w hw 45 rfl)) (by decide) (t := .long) (t' := .long) (by decide) (by decide)
theorem sn_47 (hw : ∀ d ∈ tables_1, d.before a0 Z = true) : Jvm.RoadKit.slotOf Z oc0 "led" "Z" ≠ Jvm.RoadKit.slotOf Z oc0 "ledSince" "J" := slot_ne (C := oc0) (Or.inl (own_w hw 43 rfl)) (Or.inl (own_w hw 45 rfl)) (by decide) (t := .boolean) (t' := .long) (by decide) (by decide)
theorem sn_48 (hw : ∀ d ∈ tables_1, d.before a0 Z = true) : Jvm.RoadKit.slotOf Z oc0 "ledUntil" "J" ≠ Jvm.RoadKit.slotOf Z oc0 "ledSince" "J" := slot_ne (C := oc0) (Or.inl (own_w hw 47 rfl)) (Or.inl (own_w hw 45 rfl)) (by decide) (t := .long) (t' := .long) (by decide) (by decide)
theorem sn_49 (hw : ∀ d ∈ tables_1, d.before a0 Z = true) : Jvm.RoadKit.slotOf Z oc0 "leaseNanos" "J" ≠ Jvm.RoadKit.slotOf Z oc0 "ledUntil" "J" := slot_ne (C := oc0) (Or.inr (own_w hw 10 rfl)) (Or.inl (own_w hw 47 rfl)) (by decide) (t := .long) (t' := .long) (by decide) (by decide)
theorem sn_50 (hw : ∀ d ∈ tables_1, d.before a0 Z = true) : Jvm.RoadKit.slotOf Z oc0 "waitNanos" "J" ≠ Jvm.RoadKit.slotOf Z oc0 "ledUntil" "J" := slot_ne (C := oc0) (Or.inl (own_w hw 12 rfl)) (Or.inl (own_w hw 47 rfl)) (by decide) (t := .long) (t' := .long) (by decide) (by decide)
theorem sn_51 (hw : ∀ d ∈ tables_1, d.before a0 Z = true) : Jvm.RoadKit.slotOf Z oc0 "retryAfter" "J" ≠ Jvm.RoadKit.slotOf Z oc0 "ledUntil" "J" := slot_ne (C := oc0) (Or.inl (own_w hw 14 rfl)) (Or.inl (own_w hw 47 rfl)) (by decide) (t := .long) (t' := .long) (by decide) (by decide)
theorem sn_52 (hw : ∀ d ∈ tables_1, d.before a0 Z = true) : Jvm.RoadKit.slotOf Z oc0 "caughtUp" "Z" ≠ Jvm.RoadKit.slotOf Z oc0 "ledUntil" "J" := slot_ne (C := oc0) (Or.inl (own_w hw 21 rfl)) (Or.inl (own_w hw 47 rfl)) (by decide) (t := .boolean) (t' := .long) (by decide) (by decide)
theorem sn_53 (hw : ∀ d ∈ tables_1, d.before a0 Z = true) : Jvm.RoadKit.slotOf Z oc0 "caughtUpSince" "J" ≠ Jvm.RoadKit.slotOf Z oc0 "ledUntil" "J" := slot_ne (C := oc0) (Or.inl (own_w hw 23 rfl)) (Or.inl (own_w hw 47 rfl)) (by decide) (t := .long) (t' := .long) (by decide) (by decide)
theorem sn_54 (hw : ∀ d ∈ tables_1, d.before a0 Z = true) : Jvm.RoadKit.slotOf Z oc0 "led" "Z" ≠ Jvm.RoadKit.slotOf Z oc0 "ledUntil" "J" := slot_ne (C := oc0) (Or.inl (own_w hw 43 rfl)) (Or.inl (own_w hw 47 rfl)) (by decide) (t := .boolean) (t' := .long) (by decide) (by decide)
theorem sn_55 (hw : ∀ d ∈ tables_1, d.before a0 Z = true) : Jvm.RoadKit.slotOf Z oc0 "ledSince" "J" ≠ Jvm.RoadKit.slotOf Z oc0 "ledUntil" "J" := slot_ne (C := oc0) (Or.inl (own_w hw 45 rfl)) (Or.inl (own_w hw 47 rfl)) (by decide) (t := .long) (t' := .long) (by decide) (by decide)
end OwnSn
theorem own_isl {args : Array Value} {first s : State} {o : Option Outcome} {idx : List Nat} {t : Term} (h : (Cond.isLong t).value args first o s idx = some true) : ∃ x, t.eval args first o idx s = some (.long x) := isL_v h
theorem d1_0 : decode prog_83_method_1_code 0 = .ok (.aload_n 0, 1) := by decide +kernel
theorem d1_1 : decode prog_83_method_1_code 1 = .ok (.invokespecial 1, 3) := by decide +kernel
theorem d1_4 : decode prog_83_method_1_code 4 = .ok (.aload_n 0, 1) := by decide +kernel
theorem d1_5 : decode prog_83_method_1_code 5 = .ok (.lload_n 1, 1) := by decide +kernel
theorem d1_6 : decode prog_83_method_1_code 6 = .ok (.putfield 7, 3) := by decide +kernel
theorem d1_9 : decode prog_83_method_1_code 9 = .ok (.aload_n 0, 1) := by decide +kernel
theorem d1_10 : decode prog_83_method_1_code 10 = .ok (.lload_n 1, 1) := by decide +kernel
theorem d1_11 : decode prog_83_method_1_code 11 = .ok (.putfield 13, 3) := by decide +kernel
theorem d1_14 : decode prog_83_method_1_code 14 = .ok (.aload_n 0, 1) := by decide +kernel
theorem d1_15 : decode prog_83_method_1_code 15 = .ok (.lload_n 3, 1) := by decide +kernel
theorem d1_16 : decode prog_83_method_1_code 16 = .ok (.putfield 16, 3) := by decide +kernel
theorem d1_19 : decode prog_83_method_1_code 19 = .ok (.return_, 1) := by decide +kernel
theorem d3_0 : decode prog_83_method_3_code 0 = .ok (.aload_n 0, 1) := by decide +kernel
theorem d3_1 : decode prog_83_method_3_code 1 = .ok (.getfield 41, 3) := by decide +kernel
theorem d3_4 : decode prog_83_method_3_code 4 = .ok (.ifCond .ne 13, 3) := by decide +kernel
theorem d3_7 : decode prog_83_method_3_code 7 = .ok (.aload_n 0, 1) := by decide +kernel
theorem d3_8 : decode prog_83_method_3_code 8 = .ok (.iconst 1, 1) := by decide +kernel
theorem d3_9 : decode prog_83_method_3_code 9 = .ok (.putfield 41, 3) := by decide +kernel
theorem d3_12 : decode prog_83_method_3_code 12 = .ok (.aload_n 0, 1) := by decide +kernel
theorem d3_13 : decode prog_83_method_3_code 13 = .ok (.lload_n 1, 1) := by decide +kernel
theorem d3_14 : decode prog_83_method_3_code 14 = .ok (.putfield 44, 3) := by decide +kernel
theorem d3_17 : decode prog_83_method_3_code 17 = .ok (.return_, 1) := by decide +kernel
theorem d4_0 : decode prog_83_method_6_code 0 = .ok (.aload_n 0, 1) := by decide +kernel
theorem d4_1 : decode prog_83_method_6_code 1 = .ok (.getfield 41, 3) := by decide +kernel
theorem d4_4 : decode prog_83_method_6_code 4 = .ok (.ifCond .eq 32, 3) := by decide +kernel
theorem d4_7 : decode prog_83_method_6_code 7 = .ok (.lload_n 1, 1) := by decide +kernel
theorem d4_8 : decode prog_83_method_6_code 8 = .ok (.aload_n 0, 1) := by decide +kernel
theorem d4_9 : decode prog_83_method_6_code 9 = .ok (.getfield 44, 3) := by decide +kernel
theorem d4_12 : decode prog_83_method_6_code 12 = .ok (.lsub, 1) := by decide +kernel
theorem d4_13 : decode prog_83_method_6_code 13 = .ok (.aload_n 0, 1) := by decide +kernel
theorem d4_14 : decode prog_83_method_6_code 14 = .ok (.getfield 13, 3) := by decide +kernel
theorem d4_17 : decode prog_83_method_6_code 17 = .ok (.lcmp, 1) := by decide +kernel
theorem d4_18 : decode prog_83_method_6_code 18 = .ok (.ifCond .lt 18, 3) := by decide +kernel
theorem d4_21 : decode prog_83_method_6_code 21 = .ok (.lload_n 1, 1) := by decide +kernel
theorem d4_22 : decode prog_83_method_6_code 22 = .ok (.aload_n 0, 1) := by decide +kernel
theorem d4_23 : decode prog_83_method_6_code 23 = .ok (.getfield 16, 3) := by decide +kernel
theorem d4_26 : decode prog_83_method_6_code 26 = .ok (.lsub, 1) := by decide +kernel
theorem d4_27 : decode prog_83_method_6_code 27 = .ok (.lconst 0, 1) := by decide +kernel
theorem d4_28 : decode prog_83_method_6_code 28 = .ok (.lcmp, 1) := by decide +kernel
theorem d4_29 : decode prog_83_method_6_code 29 = .ok (.ifCond .lt 7, 3) := by decide +kernel
theorem d4_32 : decode prog_83_method_6_code 32 = .ok (.iconst 1, 1) := by decide +kernel
theorem d4_33 : decode prog_83_method_6_code 33 = .ok (.goto 4, 3) := by decide +kernel
theorem d4_36 : decode prog_83_method_6_code 36 = .ok (.iconst 0, 1) := by decide +kernel
theorem d4_37 : decode prog_83_method_6_code 37 = .ok (.ireturn, 1) := by decide +kernel
theorem d5_0 : decode prog_83_method_5_code 0 = .ok (.aload_n 0, 1) := by decide +kernel
theorem d5_1 : decode prog_83_method_5_code 1 = .ok (.lload_n 1, 1) := by decide +kernel
theorem d5_2 : decode prog_83_method_5_code 2 = .ok (.getstatic 47, 3) := by decide +kernel
theorem d5_5 : decode prog_83_method_5_code 5 = .ok (.ladd, 1) := by decide +kernel
theorem d5_6 : decode prog_83_method_5_code 6 = .ok (.putfield 16, 3) := by decide +kernel
theorem d5_9 : decode prog_83_method_5_code 9 = .ok (.return_, 1) := by decide +kernel
theorem d6_0 : decode prog_83_method_2_code 0 = .ok (.iconst 0, 1) := by decide +kernel
theorem d6_1 : decode prog_83_method_2_code 1 = .ok (.istore 4, 2) := by decide +kernel
theorem d6_3 : decode prog_83_method_2_code 3 = .ok (.iload_n 1, 1) := by decide +kernel
theorem d6_4 : decode prog_83_method_2_code 4 = .ok (.ifCond .eq 28, 3) := by decide +kernel
theorem d6_7 : decode prog_83_method_2_code 7 = .ok (.aload_n 0, 1) := by decide +kernel
theorem d6_8 : decode prog_83_method_2_code 8 = .ok (.getfield 19, 3) := by decide +kernel
theorem d6_11 : decode prog_83_method_2_code 11 = .ok (.ifCond .ne 13, 3) := by decide +kernel
theorem d6_14 : decode prog_83_method_2_code 14 = .ok (.aload_n 0, 1) := by decide +kernel
theorem d6_15 : decode prog_83_method_2_code 15 = .ok (.iconst 1, 1) := by decide +kernel
theorem d6_16 : decode prog_83_method_2_code 16 = .ok (.putfield 19, 3) := by decide +kernel
theorem d6_19 : decode prog_83_method_2_code 19 = .ok (.aload_n 0, 1) := by decide +kernel
theorem d6_20 : decode prog_83_method_2_code 20 = .ok (.lload_n 2, 1) := by decide +kernel
theorem d6_21 : decode prog_83_method_2_code 21 = .ok (.putfield 23, 3) := by decide +kernel
theorem d6_24 : decode prog_83_method_2_code 24 = .ok (.aload_n 0, 1) := by decide +kernel
theorem d6_25 : decode prog_83_method_2_code 25 = .ok (.lload_n 2, 1) := by decide +kernel
theorem d6_26 : decode prog_83_method_2_code 26 = .ok (.putfield 26, 3) := by decide +kernel
theorem d6_29 : decode prog_83_method_2_code 29 = .ok (.goto 82, 3) := by decide +kernel
theorem d6_111 : decode prog_83_method_2_code 111 = .ok (.iload 4, 2) := by decide +kernel
theorem d6_113 : decode prog_83_method_2_code 113 = .ok (.ireturn, 1) := by decide +kernel
theorem d7_0 : decode prog_83_method_4_code 0 = .ok (.aload_n 0, 1) := by decide +kernel
theorem d7_1 : decode prog_83_method_4_code 1 = .ok (.iconst 0, 1) := by decide +kernel
theorem d7_2 : decode prog_83_method_4_code 2 = .ok (.putfield 41, 3) := by decide +kernel
theorem d7_5 : decode prog_83_method_4_code 5 = .ok (.return_, 1) := by decide +kernel
abbrev own_y1 : MethodName := ⟨"com/example/causeway/causeway/server/HandoverWait", "<init>", "(JJ)V"⟩
abbrev own_y3 : MethodName := ⟨"com/example/causeway/causeway/server/HandoverWait", "caughtUp", "(J)V"⟩
abbrev own_y7 : MethodName := ⟨"com/example/causeway/causeway/server/HandoverWait", "lost", "()V"⟩
abbrev own_y4 : MethodName := ⟨"com/example/causeway/causeway/server/HandoverWait", "due", "(J)Z"⟩
abbrev own_y5 : MethodName := ⟨"com/example/causeway/causeway/server/HandoverWait", "gaveUp", "(J)V"⟩
abbrev own_y6 : MethodName := ⟨"com/example/causeway/causeway/server/HandoverWait", "leads", "(ZJ)Z"⟩
theorem pf_1 : plainFor own_y1 = true := by decide +kernel
theorem pf_3 : plainFor own_y3 = true := by decide +kernel
theorem pf_7 : plainFor own_y7 = true := by decide +kernel
theorem pf_4 : plainFor own_y4 = true := by decide +kernel
theorem pf_5 : plainFor own_y5 = true := by decide +kernel
theorem pf_6 : plainFor own_y6 = true := by decide +kernel
theorem pn_0 : plainName "com/example/causeway/causeway/server/HandoverWaitDuePinLaw" = true := by first | (simp [plainName, overriddenIn]; done) | decide +kernel
theorem pd_0 : parseMethodDescriptor "(JJ)V" = some ⟨[.long, .long], none⟩ := by decide +kernel
theorem pd_1 : parseMethodDescriptor "(J)Z" = some ⟨[.long], some .boolean⟩ := by decide +kernel
theorem pd_2 : parseMethodDescriptor "(ZJ)Z" = some ⟨[.boolean, .long], some .boolean⟩ := by decide +kernel
theorem pd_3 : parseMethodDescriptor "(J)V" = some ⟨[.long], none⟩ := by decide +kernel
theorem pd_4 : parseMethodDescriptor "()V" = some ⟨[], none⟩ := by decide +kernel
def own_due (cu : Int32) (sv wt rt q : Int64) : Int32 := if cu = 0 then 0 else if q - sv < wt then 0 else if q - rt < 0 then 0 else 1
theorem own_and32 (x m : Int32) (k : Nat) (hm : m.toBitVec.toNat = 2 ^ k - 1) (hk : k < 32) : (x &&& m).toInt = ((x.toBitVec.toNat % 2 ^ k : Nat) : Int) := by
  have h : (x &&& m).toBitVec.toNat = x.toBitVec.toNat % 2 ^ k := by
    rw [Int32.toBitVec_and, BitVec.toNat_and, hm, Nat.and_two_pow_sub_one_eq_mod]
  have h2 : x.toBitVec.toNat % 2 ^ k < 2 ^ k := Nat.mod_lt _ (Nat.two_pow_pos k)
  have h3 : 2 ^ k ≤ 2 ^ 31 := Nat.pow_le_pow_right (by decide) (by omega)
  rw [← Int32.toInt_toBitVec, BitVec.toInt_eq_toNat_of_lt (by omega), h]
theorem own_mode (x : Int32) : (x &&& (7 : Int32)) % (5 : Int32) = 0 ∨ (x &&& (7 : Int32)) % (5 : Int32) = 1 ∨ (x &&& (7 : Int32)) % (5 : Int32) = 2 ∨ (x &&& (7 : Int32)) % (5 : Int32) = 3 ∨ (x &&& (7 : Int32)) % (5 : Int32) = 4 := by
  have h := own_and32 x 7 3 (by decide) (by decide)
  have q : ((x &&& (7 : Int32)) % (5 : Int32)).toInt = ((x.toBitVec.toNat % 2 ^ 3 : Nat) : Int) % 5 := by
    rw [Int32.toInt_mod, h, show (5 : Int32).toInt = 5 from rfl, Int.tmod_eq_emod_of_nonneg (by omega)]
  have e : ∀ z : Int32, ((x &&& (7 : Int32)) % (5 : Int32)).toInt = z.toInt → (x &&& (7 : Int32)) % (5 : Int32) = z := fun z h => Int32.toInt_inj.mp h
  have q5 : ((x.toBitVec.toNat % 2 ^ 3 : Nat) : Int) % 5 = 0 ∨ ((x.toBitVec.toNat % 2 ^ 3 : Nat) : Int) % 5 = 1 ∨ ((x.toBitVec.toNat % 2 ^ 3 : Nat) : Int) % 5 = 2 ∨ ((x.toBitVec.toNat % 2 ^ 3 : Nat) : Int) % 5 = 3 ∨ ((x.toBitVec.toNat % 2 ^ 3 : Nat) : Int) % 5 = 4 := by omega
  rcases q5 with r | r | r | r | r
  · exact Or.inl (e 0 (q.trans r))
  · exact Or.inr (Or.inl (e 1 (q.trans r)))
  · exact Or.inr (Or.inr (Or.inl (e 2 (q.trans r))))
  · exact Or.inr (Or.inr (Or.inr (Or.inl (e 3 (q.trans r)))))
  · exact Or.inr (Or.inr (Or.inr (Or.inr (e 4 (q.trans r)))))
def own_HW (Z : State) (h : Heap) (a : Addr) (f0 : Int64) (f1 : Int64) (f2 : Int64) (f3 : Int32) (f4 : Int64) (f5 : Int32) (f6 : Int64) (f7 : Int64) : Prop := Exa Z h a "com/example/causeway/causeway/server/HandoverWait" ∧ Fld Z h a "com/example/causeway/causeway/server/HandoverWait" "leaseNanos" "J" (.long f0) ∧ Fld Z h a "com/example/causeway/causeway/server/HandoverWait" "waitNanos" "J" (.long f1) ∧ Fld Z h a "com/example/causeway/causeway/server/HandoverWait" "retryAfter" "J" (.long f2) ∧ Fld Z h a "com/example/causeway/causeway/server/HandoverWait" "caughtUp" "Z" (.int f3) ∧ Fld Z h a "com/example/causeway/causeway/server/HandoverWait" "caughtUpSince" "J" (.long f4) ∧ Fld Z h a "com/example/causeway/causeway/server/HandoverWait" "led" "Z" (.int f5) ∧ Fld Z h a "com/example/causeway/causeway/server/HandoverWait" "ledSince" "J" (.long f6) ∧ Fld Z h a "com/example/causeway/causeway/server/HandoverWait" "ledUntil" "J" (.long f7)
def Q1 (Z : State) (a : Addr) (le st : Int64) (h0 : Heap) (n0 : Nat) (v : Option Value) (h : Heap) (L : List Loc) : Prop := v = none ∧ Fr n0 L ∧ Keep h0 h [a] ∧ own_HW Z h a le le st (0 : Int32) (0 : Int64) (0 : Int32) (0 : Int64) (0 : Int64)
theorem ef_rm1 (m : MethodId) (x0 : Addr) (x1 : Int64) (x2 : Int64) : entryFrame m #[(.ref x0), (.long x1), (.long x2)] 5 = mkF m 0 #[.val (.ref x0), .val (.long x1), .second, .val (.long x2), .second] [] := by first | (simp [entryFrame, mkF, argsToLocals, Value.category, maxLocals]; done) | rfl
set_option maxRecDepth 65536 in
set_option maxHeartbeats 40000000 in
theorem rm1 (l : Launch) (Z : State) (a0 : Array Value) (hw : ∀ d ∈ tables_1, d.before a0 Z = true) (ws : List Jvm.Cond) (a : Addr) (le st : Int64) (h0 : Heap) (n0 : Nat) (Z0 : n0 ≤ h0.size) (ga : n0 ≤ a) (B : own_HW Z h0 a (0 : Int64) (0 : Int64) (0 : Int64) (0 : Int32) (0 : Int64) (0 : Int32) (0 : Int64) (0 : Int64)) :
    MetFree l own_y1 (head1 (Jvm.Cond.code own_y1 prog_83_method_1_code 5 none :: ws) ({ frames := 1, cells := 0, slots := 0, locals := 12 } : Room)) (fun aR U => aR = #[(.ref a), (.long le), (.long st)] ∧ Z.Warmed39 U.vm ∧ U.heap = h0) (fun _ _ _ _ _ => True) (fun _ U o U' => ∃ v L, o = .returned v ∧ Q1 Z a le st h0 n0 v U'.heap L ∧ FrameEnd U o U' L ({ frames := 1, cells := 0, slots := 0, locals := 12 } : Room).cells ({ frames := 1, cells := 0, slots := 0, locals := 12 } : Room).slots) := by
  refine MetFree.of_bodySF pf_1 hisR ?_
  intro p e s m args below meth c s₁ Bd hml0 hP hK
  obtain ⟨rfl, hZ, hhE⟩ := hP
  have hx := Bd.exec
  have hby := Bd.bytes
  have hml : c.maxLocals = 5 := hml0
  have hown : s.vm.findClass "com/example/causeway/causeway/server/HandoverWait" = some m.cls := findClass_of_methodNamed Bd.named
  have hnm := (name_of_methodNamed Bd.named Bd.method).1
  have X0 : Stand p l e ({ frames := 1, cells := 0, slots := 0, locals := 12 } : Room) s m #[(.ref a), (.long le), (.long st)] below meth c s₁ [] 0 0 := Stand.of_body Bd
  have e0 : s₁.heap = h0 := by rw [← hhE, Bd.state]; rfl
  have N0 := Fr.nil n0
  show own_Go p e below (own_Post s (Q1 Z a le st h0 n0) ({ frames := 1, cells := 0, slots := 0, locals := 12 } : Room).cells ({ frames := 1, cells := 0, slots := 0, locals := 12 } : Room).slots) (s₁.setTop (entryFrame m #[(.ref a), (.long le), (.long st)] 5))
  rw [ef_rm1]
  generalize hG : own_Post s (Q1 Z a le st h0 n0) ({ frames := 1, cells := 0, slots := 0, locals := 12 } : Room).cells ({ frames := 1, cells := 0, slots := 0, locals := 12 } : Room).slots = G
  obtain ⟨E0, F0_0, F1_0, F2_0, F3_0, F4_0, F5_0, F6_0, F7_0⟩ := B
  have K0 : Keep h0 h0 [a] := Keep.refl _ _
  refine own_aloadN X0 hx (hb hby d1_0) rfl rfl 1 rfl ?_
  refine own_initO X0 hx hZ hown (own_w hw 6 rfl) (own_w hw 7 rfl) (own_w hw 8 rfl) e0 (by rw [hml]; rfl) (hb hby d1_1) (by decide) 0 (Nat.le_of_eq rfl) (by decide) 4 rfl (fun T1 X1 e1 => ?_)
  refine own_aloadN X1 hx (hb hby d1_4) rfl rfl 5 rfl ?_
  refine own_lloadN X1 hx (hb hby d1_5) rfl 6 rfl ?_
  refine own_putF X1 hx hZ hown (own_w hw 9 rfl) Via.refl e1 F0_0 E0 (Or.inr ⟨(own_w hw 10 rfl), rfl, hnm⟩) (own_w hw 1 rfl) (ty := .long) (v' := (.long le)) (by decide) rfl rfl (hb hby d1_6) 9 rfl (fun T2 h2 X2 e2 W2 => ?_)
  have N3 := Fr.snoc X2 N0 ga
  have Z4 : n0 ≤ h2.size := by rw [W2.size]; exact Z0
  have E5 := E0.wr W2
  have F6 := F0_0.same W2
  have F7 := F1_0.other W2 (Or.inr (sn_0 hw))
  have F8 := F2_0.other W2 (Or.inr (sn_1 hw))
  have F9 := F3_0.other W2 (Or.inr (sn_2 hw))
  have F10 := F4_0.other W2 (Or.inr (sn_3 hw))
  have F11 := F5_0.other W2 (Or.inr (sn_4 hw))
  have F12 := F6_0.other W2 (Or.inr (sn_5 hw))
  have F13 := F7_0.other W2 (Or.inr (sn_6 hw))
  have K14 := Keep.wr K0 W2 (Or.inl (List.mem_singleton.mpr rfl))
  refine own_aloadN X2 hx (hb hby d1_9) rfl rfl 10 rfl ?_
  refine own_lloadN X2 hx (hb hby d1_10) rfl 11 rfl ?_
  refine own_putF X2 hx hZ hown (own_w hw 11 rfl) Via.refl e2 F7 E5 (Or.inl (own_w hw 12 rfl)) (own_w hw 1 rfl) (ty := .long) (v' := (.long le)) (by decide) rfl rfl (hb hby d1_11) 14 rfl (fun T15 h15 X15 e15 W15 => ?_)
  have N16 := Fr.snoc X15 N3 ga
  have Z17 : n0 ≤ h15.size := by rw [W15.size]; exact Z4
  have E18 := E5.wr W15
  have F19 := F6.other W15 (Or.inr (sn_7 hw))
  have F20 := F7.same W15
  have F21 := F8.other W15 (Or.inr (sn_8 hw))
  have F22 := F9.other W15 (Or.inr (sn_9 hw))
  have F23 := F10.other W15 (Or.inr (sn_10 hw))
  have F24 := F11.other W15 (Or.inr (sn_11 hw))
  have F25 := F12.other W15 (Or.inr (sn_12 hw))
  have F26 := F13.other W15 (Or.inr (sn_13 hw))
  have K27 := Keep.wr K14 W15 (Or.inl (List.mem_singleton.mpr rfl))
  refine own_aloadN X15 hx (hb hby d1_14) rfl rfl 15 rfl ?_
  refine own_lloadN X15 hx (hb hby d1_15) rfl 16 rfl ?_
  refine own_putF X15 hx hZ hown (own_w hw 13 rfl) Via.refl e15 F21 E18 (Or.inl (own_w hw 14 rfl)) (own_w hw 1 rfl) (ty := .long) (v' := (.long st)) (by decide) rfl rfl (hb hby d1_16) 19 rfl (fun T28 h28 X28 e28 W28 => ?_)
  have N29 := Fr.snoc X28 N16 ga
  have Z30 : n0 ≤ h28.size := by rw [W28.size]; exact Z17
  have E31 := E18.wr W28
  have F32 := F19.other W28 (Or.inr (sn_14 hw))
  have F33 := F20.other W28 (Or.inr (sn_15 hw))
  have F34 := F21.same W28
  have F35 := F22.other W28 (Or.inr (sn_16 hw))
  have F36 := F23.other W28 (Or.inr (sn_17 hw))
  have F37 := F24.other W28 (Or.inr (sn_18 hw))
  have F38 := F25.other W28 (Or.inr (sn_19 hw))
  have F39 := F26.other W28 (Or.inr (sn_20 hw))
  have K40 := Keep.wr K27 W28 (Or.inl (List.mem_singleton.mpr rfl))
  refine own_return X28 hx Bd.notSynchronized hG Bd.returns (hb hby d1_19) (by decide) (by decide) ?_
  rw [e28]
  exact ⟨rfl, N29, K40, ⟨E31, F32, F33, F34, F35, F36, F37, F38, F39⟩⟩
def Q2 (Z : State) (a : Addr) (t : Int64) (f0 : Int64) (f1 : Int64) (f2 : Int64) (f3 : Int32) (f4 : Int64) (f5 : Int32) (f6 : Int64) (f7 : Int64) (h0 : Heap) (n0 : Nat) (v : Option Value) (h : Heap) (L : List Loc) : Prop := v = none ∧ Fr n0 L ∧ Keep h0 h [a] ∧ own_HW Z h a f0 f1 f2 (if f3 = 0 then 1 else f3) (if f3 = 0 then t else f4) f5 f6 f7
theorem ef_rm2 (m : MethodId) (x0 : Addr) (x1 : Int64) : entryFrame m #[(.ref x0), (.long x1)] 3 = mkF m 0 #[.val (.ref x0), .val (.long x1), .second] [] := by first | (simp [entryFrame, mkF, argsToLocals, Value.category, maxLocals]; done) | rfl
set_option maxRecDepth 65536 in
set_option maxHeartbeats 40000000 in
theorem rm2 (l : Launch) (Z : State) (a0 : Array Value) (hw : ∀ d ∈ tables_1, d.before a0 Z = true) (ws : List Jvm.Cond) (a : Addr) (t : Int64) (f0 : Int64) (f1 : Int64) (f2 : Int64) (f3 : Int32) (f4 : Int64) (f5 : Int32) (f6 : Int64) (f7 : Int64) (h0 : Heap) (n0 : Nat) (Z0 : n0 ≤ h0.size) (ga : n0 ≤ a) (B : own_HW Z h0 a f0 f1 f2 f3 f4 f5 f6 f7) :
    MetFree l own_y3 (head1 (Jvm.Cond.code own_y3 prog_83_method_3_code 3 none :: ws) ({ frames := 0, cells := 0, slots := 0, locals := 0 } : Room)) (fun aR U => aR = #[(.ref a), (.long t)] ∧ Z.Warmed39 U.vm ∧ U.heap = h0) (fun _ _ _ _ _ => True) (fun _ U o U' => ∃ v L, o = .returned v ∧ Q2 Z a t f0 f1 f2 f3 f4 f5 f6 f7 h0 n0 v U'.heap L ∧ FrameEnd U o U' L ({ frames := 0, cells := 0, slots := 0, locals := 0 } : Room).cells ({ frames := 0, cells := 0, slots := 0, locals := 0 } : Room).slots) := by
  refine MetFree.of_bodySF pf_3 hisR ?_
  intro p e s m args below meth c s₁ Bd hml0 hP hK
  obtain ⟨rfl, hZ, hhE⟩ := hP
  have hx := Bd.exec
  have hby := Bd.bytes
  have hml : c.maxLocals = 3 := hml0
  have hown : s.vm.findClass "com/example/causeway/causeway/server/HandoverWait" = some m.cls := findClass_of_methodNamed Bd.named
  have hnm := (name_of_methodNamed Bd.named Bd.method).1
  have X0 : Stand p l e ({ frames := 0, cells := 0, slots := 0, locals := 0 } : Room) s m #[(.ref a), (.long t)] below meth c s₁ [] 0 0 := Stand.of_body Bd
  have e0 : s₁.heap = h0 := by rw [← hhE, Bd.state]; rfl
  have N0 := Fr.nil n0
  show own_Go p e below (own_Post s (Q2 Z a t f0 f1 f2 f3 f4 f5 f6 f7 h0 n0) ({ frames := 0, cells := 0, slots := 0, locals := 0 } : Room).cells ({ frames := 0, cells := 0, slots := 0, locals := 0 } : Room).slots) (s₁.setTop (entryFrame m #[(.ref a), (.long t)] 3))
  rw [ef_rm2]
  generalize hG : own_Post s (Q2 Z a t f0 f1 f2 f3 f4 f5 f6 f7 h0 n0) ({ frames := 0, cells := 0, slots := 0, locals := 0 } : Room).cells ({ frames := 0, cells := 0, slots := 0, locals := 0 } : Room).slots = G
  obtain ⟨E0, F0_0, F1_0, F2_0, F3_0, F4_0, F5_0, F6_0, F7_0⟩ := B
  have K0 : Keep h0 h0 [a] := Keep.refl _ _
  refine own_aloadN X0 hx (hb hby d3_0) rfl rfl 1 rfl ?_
  refine own_getF X0 hx hZ hown (own_w hw 20 rfl) Via.refl e0 F3_0 (hb hby d3_1) 4 rfl (fun T41 X41 e41 => ?_)
  by_cases hc : f3 = (0 : Int32)
  ·
    refine own_ifN X41 hx (hb hby d3_4) ((if0 _ _).trans (teq hc).2) 7 rfl ?_
    refine own_aloadN X41 hx (hb hby d3_7) rfl rfl 8 rfl ?_
    refine own_iconst X41 hx (hb hby d3_8) (1 : Int32) rfl 9 rfl ?_
    refine own_putF X41 hx hZ hown (own_w hw 20 rfl) Via.refl e41 F3_0 E0 (Or.inl (own_w hw 21 rfl)) (own_w hw 1 rfl) (ty := .boolean) (v' := (.int (1 : Int32))) (by decide) rfl rfl (hb hby d3_9) 12 rfl (fun T42 h42 X42 e42 W42 => ?_)
    have N43 := Fr.snoc X42 N0 ga
    have Z44 : n0 ≤ h42.size := by rw [W42.size]; exact Z0
    have E45 := E0.wr W42
    have F46 := F0_0.other W42 (Or.inr (sn_21 hw))
    have F47 := F1_0.other W42 (Or.inr (sn_22 hw))
    have F48 := F2_0.other W42 (Or.inr (sn_23 hw))
    have F49 := F3_0.same W42
    have F50 := F4_0.other W42 (Or.inr (sn_24 hw))
    have F51 := F5_0.other W42 (Or.inr (sn_25 hw))
    have F52 := F6_0.other W42 (Or.inr (sn_26 hw))
    have F53 := F7_0.other W42 (Or.inr (sn_27 hw))
    have K54 := Keep.wr K0 W42 (Or.inl (List.mem_singleton.mpr rfl))
    refine own_aloadN X42 hx (hb hby d3_12) rfl rfl 13 rfl ?_
    refine own_lloadN X42 hx (hb hby d3_13) rfl 14 rfl ?_
    refine own_putF X42 hx hZ hown (own_w hw 22 rfl) Via.refl e42 F50 E45 (Or.inl (own_w hw 23 rfl)) (own_w hw 1 rfl) (ty := .long) (v' := (.long t)) (by decide) rfl rfl (hb hby d3_14) 17 rfl (fun T55 h55 X55 e55 W55 => ?_)
    have N56 := Fr.snoc X55 N43 ga
    have Z57 : n0 ≤ h55.size := by rw [W55.size]; exact Z44
    have E58 := E45.wr W55
    have F59 := F46.other W55 (Or.inr (sn_28 hw))
    have F60 := F47.other W55 (Or.inr (sn_29 hw))
    have F61 := F48.other W55 (Or.inr (sn_30 hw))
    have F62 := F49.other W55 (Or.inr (sn_31 hw))
    have F63 := F50.same W55
    have F64 := F51.other W55 (Or.inr (sn_32 hw))
    have F65 := F52.other W55 (Or.inr (sn_33 hw))
    have F66 := F53.other W55 (Or.inr (sn_34 hw))
    have K67 := Keep.wr K54 W55 (Or.inl (List.mem_singleton.mpr rfl))
    skip
    refine own_return X55 hx Bd.notSynchronized hG Bd.returns (hb hby d3_17) (by decide) (by decide) ?_
    rw [e55]
    refine ⟨rfl, N56, K67, ?_⟩
    simp only [if_pos hc]
    exact ⟨E58, F59, F60, F61, F62, F63, F64, F65, F66⟩
  ·
    refine own_ifY X41 hx (hb hby d3_4) ((if0 _ _).trans (feq hc).2) 17 ⟨by decide, by decide⟩ ?_
    skip
    refine own_return X41 hx Bd.notSynchronized hG Bd.returns (hb hby d3_17) (by decide) (by decide) ?_
    rw [e41]
    refine ⟨rfl, N0, K0, ?_⟩
    simp only [if_neg hc]
    exact ⟨E0, F0_0, F1_0, F2_0, F3_0, F4_0, F5_0, F6_0, F7_0⟩
def Q3 (Z : State) (a : Addr)  (f0 : Int64) (f1 : Int64) (f2 : Int64) (f3 : Int32) (f4 : Int64) (f5 : Int32) (f6 : Int64) (f7 : Int64) (h0 : Heap) (n0 : Nat) (v : Option Value) (h : Heap) (L : List Loc) : Prop := v = none ∧ Fr n0 L ∧ Keep h0 h [a] ∧ own_HW Z h a f0 f1 f2 0 f4 f5 f6 f7
theorem ef_rm3 (m : MethodId) (x0 : Addr) : entryFrame m #[(.ref x0)] 1 = mkF m 0 #[.val (.ref x0)] [] := by first | (simp [entryFrame, mkF, argsToLocals, Value.category, maxLocals]; done) | rfl
set_option maxRecDepth 65536 in
set_option maxHeartbeats 40000000 in
theorem rm3 (l : Launch) (Z : State) (a0 : Array Value) (hw : ∀ d ∈ tables_1, d.before a0 Z = true) (ws : List Jvm.Cond) (a : Addr)  (f0 : Int64) (f1 : Int64) (f2 : Int64) (f3 : Int32) (f4 : Int64) (f5 : Int32) (f6 : Int64) (f7 : Int64) (h0 : Heap) (n0 : Nat) (Z0 : n0 ≤ h0.size) (ga : n0 ≤ a) (B : own_HW Z h0 a f0 f1 f2 f3 f4 f5 f6 f7) :
    MetFree l own_y7 (head1 (Jvm.Cond.code own_y7 prog_83_method_4_code 1 none :: ws) ({ frames := 0, cells := 0, slots := 0, locals := 0 } : Room)) (fun aR U => aR = #[(.ref a)] ∧ Z.Warmed39 U.vm ∧ U.heap = h0) (fun _ _ _ _ _ => True) (fun _ U o U' => ∃ v L, o = .returned v ∧ Q3 Z a  f0 f1 f2 f3 f4 f5 f6 f7 h0 n0 v U'.heap L ∧ FrameEnd U o U' L ({ frames := 0, cells := 0, slots := 0, locals := 0 } : Room).cells ({ frames := 0, cells := 0, slots := 0, locals := 0 } : Room).slots) := by
  refine MetFree.of_bodySF pf_7 hisR ?_
  intro p e s m args below meth c s₁ Bd hml0 hP hK
  obtain ⟨rfl, hZ, hhE⟩ := hP
  have hx := Bd.exec
  have hby := Bd.bytes
  have hml : c.maxLocals = 1 := hml0
  have hown : s.vm.findClass "com/example/causeway/causeway/server/HandoverWait" = some m.cls := findClass_of_methodNamed Bd.named
  have hnm := (name_of_methodNamed Bd.named Bd.method).1
  have X0 : Stand p l e ({ frames := 0, cells := 0, slots := 0, locals := 0 } : Room) s m #[(.ref a)] below meth c s₁ [] 0 0 := Stand.of_body Bd
  have e0 : s₁.heap = h0 := by rw [← hhE, Bd.state]; rfl
  have N0 := Fr.nil n0
  show own_Go p e below (own_Post s (Q3 Z a  f0 f1 f2 f3 f4 f5 f6 f7 h0 n0) ({ frames := 0, cells := 0, slots := 0, locals := 0 } : Room).cells ({ frames := 0, cells := 0, slots := 0, locals := 0 } : Room).slots) (s₁.setTop (entryFrame m #[(.ref a)] 1))
  rw [ef_rm3]
  generalize hG : own_Post s (Q3 Z a  f0 f1 f2 f3 f4 f5 f6 f7 h0 n0) ({ frames := 0, cells := 0, slots := 0, locals := 0 } : Room).cells ({ frames := 0, cells := 0, slots := 0, locals := 0 } : Room).slots = G
  obtain ⟨E0, F0_0, F1_0, F2_0, F3_0, F4_0, F5_0, F6_0, F7_0⟩ := B
  have K0 : Keep h0 h0 [a] := Keep.refl _ _
  refine own_aloadN X0 hx (hb hby d7_0) rfl rfl 1 rfl ?_
  refine own_iconst X0 hx (hb hby d7_1) (0 : Int32) rfl 2 rfl ?_
  refine own_putF X0 hx hZ hown (own_w hw 20 rfl) Via.refl e0 F3_0 E0 (Or.inl (own_w hw 21 rfl)) (own_w hw 1 rfl) (ty := .boolean) (v' := (.int (0 : Int32))) (by decide) rfl rfl (hb hby d7_2) 5 rfl (fun T68 h68 X68 e68 W68 => ?_)
  have N69 := Fr.snoc X68 N0 ga
  have Z70 : n0 ≤ h68.size := by rw [W68.size]; exact Z0
  have E71 := E0.wr W68
  have F72 := F0_0.other W68 (Or.inr (sn_21 hw))
  have F73 := F1_0.other W68 (Or.inr (sn_22 hw))
  have F74 := F2_0.other W68 (Or.inr (sn_23 hw))
  have F75 := F3_0.same W68
  have F76 := F4_0.other W68 (Or.inr (sn_24 hw))
  have F77 := F5_0.other W68 (Or.inr (sn_25 hw))
  have F78 := F6_0.other W68 (Or.inr (sn_26 hw))
  have F79 := F7_0.other W68 (Or.inr (sn_27 hw))
  have K80 := Keep.wr K0 W68 (Or.inl (List.mem_singleton.mpr rfl))
  refine own_return X68 hx Bd.notSynchronized hG Bd.returns (hb hby d7_5) (by decide) (by decide) ?_
  rw [e68]
  exact ⟨rfl, N69, K80, ⟨E71, F72, F73, F74, F75, F76, F77, F78, F79⟩⟩
def Q4 (f1 f2 : Int64) (f3 : Int32) (f4 q : Int64) (h0 : Heap) (n0 : Nat) (v : Option Value) (h : Heap) (L : List Loc) : Prop := v = some (.int (own_due f3 f4 f1 f2 q)) ∧ Fr n0 L ∧ h = h0
theorem ef_rm4 (m : MethodId) (x0 : Addr) (x1 : Int64) : entryFrame m #[(.ref x0), (.long x1)] 3 = mkF m 0 #[.val (.ref x0), .val (.long x1), .second] [] := by first | (simp [entryFrame, mkF, argsToLocals, Value.category, maxLocals]; done) | rfl
set_option maxRecDepth 65536 in
set_option maxHeartbeats 40000000 in
theorem rm4 (l : Launch) (Z : State) (a0 : Array Value) (hw : ∀ d ∈ tables_1, d.before a0 Z = true) (ws : List Jvm.Cond) (a : Addr) (q : Int64) (f0 : Int64) (f1 : Int64) (f2 : Int64) (f3 : Int32) (f4 : Int64) (f5 : Int32) (f6 : Int64) (f7 : Int64) (h0 : Heap) (n0 : Nat) (Z0 : n0 ≤ h0.size) (ga : n0 ≤ a) (B : own_HW Z h0 a f0 f1 f2 f3 f4 f5 f6 f7) :
    MetFree l own_y4 (head1 (Jvm.Cond.code own_y4 prog_83_method_6_code 3 (some .boolean) :: ws) ({ frames := 0, cells := 0, slots := 0, locals := 0 } : Room)) (fun aR U => aR = #[(.ref a), (.long q)] ∧ Z.Warmed39 U.vm ∧ U.heap = h0) (fun _ _ _ _ _ => True) (fun _ U o U' => ∃ v L, o = .returned v ∧ Q4 f1 f2 f3 f4 q h0 n0 v U'.heap L ∧ FrameEnd U o U' L ({ frames := 0, cells := 0, slots := 0, locals := 0 } : Room).cells ({ frames := 0, cells := 0, slots := 0, locals := 0 } : Room).slots) := by
  refine MetFree.of_bodySF pf_4 hisR ?_
  intro p e s m args below meth c s₁ Bd hml0 hP hK
  obtain ⟨rfl, hZ, hhE⟩ := hP
  have hx := Bd.exec
  have hby := Bd.bytes
  have hml : c.maxLocals = 3 := hml0
  have hown : s.vm.findClass "com/example/causeway/causeway/server/HandoverWait" = some m.cls := findClass_of_methodNamed Bd.named
  have hnm := (name_of_methodNamed Bd.named Bd.method).1
  have X0 : Stand p l e ({ frames := 0, cells := 0, slots := 0, locals := 0 } : Room) s m #[(.ref a), (.long q)] below meth c s₁ [] 0 0 := Stand.of_body Bd
  have e0 : s₁.heap = h0 := by rw [← hhE, Bd.state]; rfl
  have N0 := Fr.nil n0
  show own_Go p e below (own_Post s (Q4 f1 f2 f3 f4 q h0 n0) ({ frames := 0, cells := 0, slots := 0, locals := 0 } : Room).cells ({ frames := 0, cells := 0, slots := 0, locals := 0 } : Room).slots) (s₁.setTop (entryFrame m #[(.ref a), (.long q)] 3))
  rw [ef_rm4]
  generalize hG : own_Post s (Q4 f1 f2 f3 f4 q h0 n0) ({ frames := 0, cells := 0, slots := 0, locals := 0 } : Room).cells ({ frames := 0, cells := 0, slots := 0, locals := 0 } : Room).slots = G
  obtain ⟨E0, F0_0, F1_0, F2_0, F3_0, F4_0, F5_0, F6_0, F7_0⟩ := B
  refine own_aloadN X0 hx (hb hby d4_0) rfl rfl 1 rfl ?_
  refine own_getF X0 hx hZ hown (own_w hw 20 rfl) Via.refl e0 F3_0 (hb hby d4_1) 4 rfl (fun T81 X81 e81 => ?_)
  by_cases c82 : f3 = (0 : Int32)
  ·
    refine own_ifY X81 hx (hb hby d4_4) ((if0 _ _).trans (teq c82).1) 36 ⟨by decide, by decide⟩ ?_
    refine own_iconst X81 hx (hb hby d4_36) (0 : Int32) rfl 37 rfl ?_
    refine own_nreturn X81 hx Bd.notSynchronized hG Bd.returns (by simp) (hb hby d4_37) (by decide) (by decide) ?_
    rw [e81]
    exact ⟨by first | (unfold own_due; (try simp only [↓reduceIte, c82]) <;> rfl) | (simp [own_due, c82, nar]; done) | (simp [own_due, c82] <;> rfl), N0, rfl⟩
  ·
    refine own_ifN X81 hx (hb hby d4_4) ((if0 _ _).trans (feq c82).1) 7 rfl ?_
    refine own_lloadN X81 hx (hb hby d4_7) rfl 8 rfl ?_
    refine own_aloadN X81 hx (hb hby d4_8) rfl rfl 9 rfl ?_
    refine own_getF X81 hx hZ hown (own_w hw 22 rfl) Via.refl e81 F4_0 (hb hby d4_9) 12 rfl (fun T83 X83 e83 => ?_)
    refine own_lsub X83 hx (hb hby d4_12) 13 rfl ?_
    refine own_aloadN X83 hx (hb hby d4_13) rfl rfl 14 rfl ?_
    refine own_getF X83 hx hZ hown (own_w hw 11 rfl) Via.refl e83 F1_0 (hb hby d4_14) 17 rfl (fun T84 X84 e84 => ?_)
    refine own_lcmp X84 hx (hb hby d4_17) 18 rfl ?_
    by_cases c85 : (q - f4) < f1
    ·
      refine own_ifY X84 hx (hb hby d4_18) (own_ltL c85).1 36 ⟨by decide, by decide⟩ ?_
      refine own_iconst X84 hx (hb hby d4_36) (0 : Int32) rfl 37 rfl ?_
      refine own_nreturn X84 hx Bd.notSynchronized hG Bd.returns (by simp) (hb hby d4_37) (by decide) (by decide) ?_
      rw [e84]
      exact ⟨by first | (unfold own_due; (try simp only [↓reduceIte, c82, c85]) <;> rfl) | (simp [own_due, c82, c85, nar]; done) | (simp [own_due, c82, c85] <;> rfl), N0, rfl⟩
    ·
      refine own_ifN X84 hx (hb hby d4_18) (own_nltL c85).1 21 rfl ?_
      refine own_lloadN X84 hx (hb hby d4_21) rfl 22 rfl ?_
      refine own_aloadN X84 hx (hb hby d4_22) rfl rfl 23 rfl ?_
      refine own_getF X84 hx hZ hown (own_w hw 13 rfl) Via.refl e84 F2_0 (hb hby d4_23) 26 rfl (fun T86 X86 e86 => ?_)
      refine own_lsub X86 hx (hb hby d4_26) 27 rfl ?_
      refine own_lconst X86 hx (hb hby d4_27) (0 : Int64) rfl 28 rfl ?_
      refine own_lcmp X86 hx (hb hby d4_28) 29 rfl ?_
      by_cases c87 : (q - f2) < (0 : Int64)
      ·
        refine own_ifY X86 hx (hb hby d4_29) (own_ltL c87).1 36 ⟨by decide, by decide⟩ ?_
        refine own_iconst X86 hx (hb hby d4_36) (0 : Int32) rfl 37 rfl ?_
        refine own_nreturn X86 hx Bd.notSynchronized hG Bd.returns (by simp) (hb hby d4_37) (by decide) (by decide) ?_
        rw [e86]
        exact ⟨by first | (unfold own_due; (try simp only [↓reduceIte, c82, c85, c87]) <;> rfl) | (simp [own_due, c82, c85, c87, nar]; done) | (simp [own_due, c82, c85, c87] <;> rfl), N0, rfl⟩
      ·
        refine own_ifN X86 hx (hb hby d4_29) (own_nltL c87).1 32 rfl ?_
        refine own_iconst X86 hx (hb hby d4_32) (1 : Int32) rfl 33 rfl ?_
        refine own_goto X86 hx (hb hby d4_33) 37 ⟨by decide, by decide⟩ ?_
        refine own_nreturn X86 hx Bd.notSynchronized hG Bd.returns (by simp) (hb hby d4_37) (by decide) (by decide) ?_
        rw [e86]
        exact ⟨by first | (unfold own_due; (try simp only [↓reduceIte, c82, c85, c87]) <;> rfl) | (simp [own_due, c82, c85, c87, nar]; done) | (simp [own_due, c82, c85, c87] <;> rfl), N0, rfl⟩
def Q5 (Z : State) (a : Addr) (t : Int64) (f0 : Int64) (f1 : Int64) (f2 : Int64) (f3 : Int32) (f4 : Int64) (f5 : Int32) (f6 : Int64) (f7 : Int64) (h0 : Heap) (n0 : Nat) (v : Option Value) (h : Heap) (L : List Loc) : Prop := v = none ∧ Fr n0 L ∧ Keep h0 h [a] ∧ own_HW Z h a f0 f1 (t + 5000000000) f3 f4 f5 f6 f7
theorem ef_rm5 (m : MethodId) (x0 : Addr) (x1 : Int64) : entryFrame m #[(.ref x0), (.long x1)] 3 = mkF m 0 #[.val (.ref x0), .val (.long x1), .second] [] := by first | (simp [entryFrame, mkF, argsToLocals, Value.category, maxLocals]; done) | rfl
set_option maxRecDepth 65536 in
set_option maxHeartbeats 40000000 in
theorem rm5 (l : Launch) (Z : State) (a0 : Array Value) (hw : ∀ d ∈ tables_1, d.before a0 Z = true) (ws : List Jvm.Cond) (a : Addr) (t : Int64) (f0 : Int64) (f1 : Int64) (f2 : Int64) (f3 : Int32) (f4 : Int64) (f5 : Int32) (f6 : Int64) (f7 : Int64) (h0 : Heap) (n0 : Nat) (Z0 : n0 ≤ h0.size) (ga : n0 ≤ a) (B : own_HW Z h0 a f0 f1 f2 f3 f4 f5 f6 f7) (O0 : Old Z n0 h0) (S0 : Sta Z Z.heap "com/example/causeway/causeway/server/HandoverWait" "RETRY_NANOS" "J" (.long 5000000000)) :
    MetFree l own_y5 (head1 (Jvm.Cond.code own_y5 prog_83_method_5_code 3 none :: ws) ({ frames := 0, cells := 0, slots := 0, locals := 0 } : Room)) (fun aR U => aR = #[(.ref a), (.long t)] ∧ Z.Warmed39 U.vm ∧ U.heap = h0) (fun _ _ _ _ _ => True) (fun _ U o U' => ∃ v L, o = .returned v ∧ Q5 Z a t f0 f1 f2 f3 f4 f5 f6 f7 h0 n0 v U'.heap L ∧ FrameEnd U o U' L ({ frames := 0, cells := 0, slots := 0, locals := 0 } : Room).cells ({ frames := 0, cells := 0, slots := 0, locals := 0 } : Room).slots) := by
  refine MetFree.of_bodySF pf_5 hisR ?_
  intro p e s m args below meth c s₁ Bd hml0 hP hK
  obtain ⟨rfl, hZ, hhE⟩ := hP
  have hx := Bd.exec
  have hby := Bd.bytes
  have hml : c.maxLocals = 3 := hml0
  have hown : s.vm.findClass "com/example/causeway/causeway/server/HandoverWait" = some m.cls := findClass_of_methodNamed Bd.named
  have hnm := (name_of_methodNamed Bd.named Bd.method).1
  have X0 : Stand p l e ({ frames := 0, cells := 0, slots := 0, locals := 0 } : Room) s m #[(.ref a), (.long t)] below meth c s₁ [] 0 0 := Stand.of_body Bd
  have e0 : s₁.heap = h0 := by rw [← hhE, Bd.state]; rfl
  have N0 := Fr.nil n0
  show own_Go p e below (own_Post s (Q5 Z a t f0 f1 f2 f3 f4 f5 f6 f7 h0 n0) ({ frames := 0, cells := 0, slots := 0, locals := 0 } : Room).cells ({ frames := 0, cells := 0, slots := 0, locals := 0 } : Room).slots) (s₁.setTop (entryFrame m #[(.ref a), (.long t)] 3))
  rw [ef_rm5]
  generalize hG : own_Post s (Q5 Z a t f0 f1 f2 f3 f4 f5 f6 f7 h0 n0) ({ frames := 0, cells := 0, slots := 0, locals := 0 } : Room).cells ({ frames := 0, cells := 0, slots := 0, locals := 0 } : Room).slots = G
  obtain ⟨E0, F0_0, F1_0, F2_0, F3_0, F4_0, F5_0, F6_0, F7_0⟩ := B
  have K0 : Keep h0 h0 [a] := Keep.refl _ _
  refine own_aloadN X0 hx (hb hby d5_0) rfl rfl 1 rfl ?_
  refine own_lloadN X0 hx (hb hby d5_1) rfl 2 rfl ?_
  refine own_getS X0 hx hZ hown (own_w hw 34 rfl) Via.refl e0 (S0.ext O0.2) (hb hby d5_2) 5 rfl (fun T88 X88 e88 => ?_)
  refine own_ladd X88 hx (hb hby d5_5) 6 rfl ?_
  refine own_putF X88 hx hZ hown (own_w hw 13 rfl) Via.refl e88 F2_0 E0 (Or.inl (own_w hw 14 rfl)) (own_w hw 1 rfl) (ty := .long) (v' := (.long (t + (5000000000 : Int64)))) (by decide) rfl rfl (hb hby d5_6) 9 rfl (fun T89 h89 X89 e89 W89 => ?_)
  have N90 := Fr.snoc X89 N0 ga
  have Z91 : n0 ≤ h89.size := by rw [W89.size]; exact Z0
  have E92 := E0.wr W89
  have F93 := F0_0.other W89 (Or.inr (sn_14 hw))
  have F94 := F1_0.other W89 (Or.inr (sn_15 hw))
  have F95 := F2_0.same W89
  have F96 := F3_0.other W89 (Or.inr (sn_16 hw))
  have F97 := F4_0.other W89 (Or.inr (sn_17 hw))
  have F98 := F5_0.other W89 (Or.inr (sn_18 hw))
  have F99 := F6_0.other W89 (Or.inr (sn_19 hw))
  have F100 := F7_0.other W89 (Or.inr (sn_20 hw))
  have O102 := O0.wr W89 ga
  have K103 := Keep.wr K0 W89 (Or.inl (List.mem_singleton.mpr rfl))
  refine own_return X89 hx Bd.notSynchronized hG Bd.returns (hb hby d5_9) (by decide) (by decide) ?_
  rw [e89]
  exact ⟨rfl, N90, K103, ⟨E92, F93, F94, F95, F96, F97, F98, F99, F100⟩⟩
def Q6 (Z : State) (a : Addr) (t : Int64) (f0 : Int64) (f1 : Int64) (f2 : Int64) (f3 : Int32) (f4 : Int64) (f6 : Int64) (f7 : Int64) (h0 : Heap) (n0 : Nat) (v : Option Value) (h : Heap) (L : List Loc) : Prop := v = some (.int 0) ∧ Fr n0 L ∧ Keep h0 h [a] ∧ own_HW Z h a f0 f1 f2 f3 f4 (1 : Int32) t t
theorem ef_rm6 (m : MethodId) (x0 : Addr) (x1 : Int32) (x2 : Int64) : entryFrame m #[(.ref x0), (.int x1), (.long x2)] 7 = mkF m 0 #[.val (.ref x0), .val (.int x1), .val (.long x2), .second, .unset, .unset, .unset] [] := by first | (simp [entryFrame, mkF, argsToLocals, Value.category, maxLocals]; done) | rfl
set_option maxRecDepth 65536 in
set_option maxHeartbeats 40000000 in
theorem rm6 (l : Launch) (Z : State) (a0 : Array Value) (hw : ∀ d ∈ tables_1, d.before a0 Z = true) (ws : List Jvm.Cond) (a : Addr) (t : Int64) (f0 : Int64) (f1 : Int64) (f2 : Int64) (f3 : Int32) (f4 : Int64) (f6 : Int64) (f7 : Int64) (h0 : Heap) (n0 : Nat) (Z0 : n0 ≤ h0.size) (ga : n0 ≤ a) (B : own_HW Z h0 a f0 f1 f2 f3 f4 (0 : Int32) f6 f7) :
    MetFree l own_y6 (head1 (Jvm.Cond.code own_y6 prog_83_method_2_code 7 (some .boolean) :: ws) ({ frames := 0, cells := 0, slots := 0, locals := 0 } : Room)) (fun aR U => aR = #[(.ref a), (.int (1 : Int32)), (.long t)] ∧ Z.Warmed39 U.vm ∧ U.heap = h0) (fun _ _ _ _ _ => True) (fun _ U o U' => ∃ v L, o = .returned v ∧ Q6 Z a t f0 f1 f2 f3 f4 f6 f7 h0 n0 v U'.heap L ∧ FrameEnd U o U' L ({ frames := 0, cells := 0, slots := 0, locals := 0 } : Room).cells ({ frames := 0, cells := 0, slots := 0, locals := 0 } : Room).slots) := by
  refine MetFree.of_bodySF pf_6 hisR ?_
  intro p e s m args below meth c s₁ Bd hml0 hP hK
  obtain ⟨rfl, hZ, hhE⟩ := hP
  have hx := Bd.exec
  have hby := Bd.bytes
  have hml : c.maxLocals = 7 := hml0
  have hown : s.vm.findClass "com/example/causeway/causeway/server/HandoverWait" = some m.cls := findClass_of_methodNamed Bd.named
  have hnm := (name_of_methodNamed Bd.named Bd.method).1
  have X0 : Stand p l e ({ frames := 0, cells := 0, slots := 0, locals := 0 } : Room) s m #[(.ref a), (.int (1 : Int32)), (.long t)] below meth c s₁ [] 0 0 := Stand.of_body Bd
  have e0 : s₁.heap = h0 := by rw [← hhE, Bd.state]; rfl
  have N0 := Fr.nil n0
  show own_Go p e below (own_Post s (Q6 Z a t f0 f1 f2 f3 f4 f6 f7 h0 n0) ({ frames := 0, cells := 0, slots := 0, locals := 0 } : Room).cells ({ frames := 0, cells := 0, slots := 0, locals := 0 } : Room).slots) (s₁.setTop (entryFrame m #[(.ref a), (.int (1 : Int32)), (.long t)] 7))
  rw [ef_rm6]
  generalize hG : own_Post s (Q6 Z a t f0 f1 f2 f3 f4 f6 f7 h0 n0) ({ frames := 0, cells := 0, slots := 0, locals := 0 } : Room).cells ({ frames := 0, cells := 0, slots := 0, locals := 0 } : Room).slots = G
  obtain ⟨E0, F0_0, F1_0, F2_0, F3_0, F4_0, F5_0, F6_0, F7_0⟩ := B
  have K0 : Keep h0 h0 [a] := Keep.refl _ _
  refine own_iconst X0 hx (hb hby d6_0) (0 : Int32) rfl 1 rfl ?_
  refine own_istore X0 hx (hb hby d6_1) #[.val (.ref a), .val (.int (1 : Int32)), .val (.long t), .second, .val (.int (0 : Int32)), .unset, .unset] rfl 3 rfl ?_
  refine own_iloadN X0 hx (hb hby d6_3) rfl 4 rfl ?_
  refine own_ifN X0 hx (hb hby d6_4) ((if0 _ _).trans (feq (by decide)).1) 7 rfl ?_
  refine own_aloadN X0 hx (hb hby d6_7) rfl rfl 8 rfl ?_
  refine own_getF X0 hx hZ hown (own_w hw 42 rfl) Via.refl e0 F5_0 (hb hby d6_8) 11 rfl (fun T104 X104 e104 => ?_)
  refine own_ifN X104 hx (hb hby d6_11) ((if0 _ _).trans (teq (by decide)).2) 14 rfl ?_
  refine own_aloadN X104 hx (hb hby d6_14) rfl rfl 15 rfl ?_
  refine own_iconst X104 hx (hb hby d6_15) (1 : Int32) rfl 16 rfl ?_
  refine own_putF X104 hx hZ hown (own_w hw 42 rfl) Via.refl e104 F5_0 E0 (Or.inl (own_w hw 43 rfl)) (own_w hw 1 rfl) (ty := .boolean) (v' := (.int (1 : Int32))) (by decide) rfl rfl (hb hby d6_16) 19 rfl (fun T105 h105 X105 e105 W105 => ?_)
  have N106 := Fr.snoc X105 N0 ga
  have Z107 : n0 ≤ h105.size := by rw [W105.size]; exact Z0
  have E108 := E0.wr W105
  have F109 := F0_0.other W105 (Or.inr (sn_35 hw))
  have F110 := F1_0.other W105 (Or.inr (sn_36 hw))
  have F111 := F2_0.other W105 (Or.inr (sn_37 hw))
  have F112 := F3_0.other W105 (Or.inr (sn_38 hw))
  have F113 := F4_0.other W105 (Or.inr (sn_39 hw))
  have F114 := F5_0.same W105
  have F115 := F6_0.other W105 (Or.inr (sn_40 hw))
  have F116 := F7_0.other W105 (Or.inr (sn_41 hw))
  have K117 := Keep.wr K0 W105 (Or.inl (List.mem_singleton.mpr rfl))
  refine own_aloadN X105 hx (hb hby d6_19) rfl rfl 20 rfl ?_
  refine own_lloadN X105 hx (hb hby d6_20) rfl 21 rfl ?_
  refine own_putF X105 hx hZ hown (own_w hw 44 rfl) Via.refl e105 F115 E108 (Or.inl (own_w hw 45 rfl)) (own_w hw 1 rfl) (ty := .long) (v' := (.long t)) (by decide) rfl rfl (hb hby d6_21) 24 rfl (fun T118 h118 X118 e118 W118 => ?_)
  have N119 := Fr.snoc X118 N106 ga
  have Z120 : n0 ≤ h118.size := by rw [W118.size]; exact Z107
  have E121 := E108.wr W118
  have F122 := F109.other W118 (Or.inr (sn_42 hw))
  have F123 := F110.other W118 (Or.inr (sn_43 hw))
  have F124 := F111.other W118 (Or.inr (sn_44 hw))
  have F125 := F112.other W118 (Or.inr (sn_45 hw))
  have F126 := F113.other W118 (Or.inr (sn_46 hw))
  have F127 := F114.other W118 (Or.inr (sn_47 hw))
  have F128 := F115.same W118
  have F129 := F116.other W118 (Or.inr (sn_48 hw))
  have K130 := Keep.wr K117 W118 (Or.inl (List.mem_singleton.mpr rfl))
  refine own_aloadN X118 hx (hb hby d6_24) rfl rfl 25 rfl ?_
  refine own_lloadN X118 hx (hb hby d6_25) rfl 26 rfl ?_
  refine own_putF X118 hx hZ hown (own_w hw 46 rfl) Via.refl e118 F129 E121 (Or.inl (own_w hw 47 rfl)) (own_w hw 1 rfl) (ty := .long) (v' := (.long t)) (by decide) rfl rfl (hb hby d6_26) 29 rfl (fun T131 h131 X131 e131 W131 => ?_)
  have N132 := Fr.snoc X131 N119 ga
  have Z133 : n0 ≤ h131.size := by rw [W131.size]; exact Z120
  have E134 := E121.wr W131
  have F135 := F122.other W131 (Or.inr (sn_49 hw))
  have F136 := F123.other W131 (Or.inr (sn_50 hw))
  have F137 := F124.other W131 (Or.inr (sn_51 hw))
  have F138 := F125.other W131 (Or.inr (sn_52 hw))
  have F139 := F126.other W131 (Or.inr (sn_53 hw))
  have F140 := F127.other W131 (Or.inr (sn_54 hw))
  have F141 := F128.other W131 (Or.inr (sn_55 hw))
  have F142 := F129.same W131
  have K143 := Keep.wr K130 W131 (Or.inl (List.mem_singleton.mpr rfl))
  refine own_goto X131 hx (hb hby d6_29) 111 ⟨by decide, by decide⟩ ?_
  refine own_iload X131 hx (hb hby d6_111) rfl 113 rfl ?_
  refine own_nreturn X131 hx Bd.notSynchronized hG Bd.returns (by simp) (hb hby d6_113) (by decide) (by decide) ?_
  rw [e131]
  exact ⟨rfl, N132, K143, ⟨E134, F135, F136, F137, F138, F139, F140, F141, F142⟩⟩
def Q0 (h0 : Heap) (n0 : Nat) (v : Option Value) (h : Heap) (L : List Loc) : Prop := v = some (.int 1) ∧ Fr n0 L
theorem ef_rm0_0_0 (m : MethodId) (x0 : Int64) (x1 : Int64) (x2 : Int64) (x3 : Int64) (x4 : Int64) (x5 : Int32) : entryFrame m #[(.long x0), (.long x1), (.long x2), (.long x3), (.long x4), (.int x5)] maxLocals = mkF m 0 #[.val (.long x0), .second, .val (.long x1), .second, .val (.long x2), .second, .val (.long x3), .second, .val (.long x4), .second, .val (.int x5), .unset, .unset, .unset, .unset, .unset, .unset, .unset, .unset, .unset, .unset] [] := by first | (simp [entryFrame, mkF, argsToLocals, Value.category, maxLocals]; done) | rfl
set_option maxRecDepth 65536 in
set_option maxHeartbeats 40000000 in
theorem rm0_0_0 (l : Launch) (Z : State) (a0 : Array Value) (hw : ∀ d ∈ tables_1, d.before a0 Z = true) (ws : List Jvm.Cond) (le st t1 t2 q : Int64) (fl : Int32) (h0 : Heap) (n0 : Nat) (Z0 : n0 ≤ h0.size) (O0 : Old Z n0 h0) (S0 : Sta Z Z.heap "com/example/causeway/causeway/server/HandoverWait" "RETRY_NANOS" "J" (.long 5000000000)) (hmd : (fl &&& (7 : Int32)) % (5 : Int32) = 0) (hgv : (fl &&& (8 : Int32)) = (0 : Int32)) :
    MetFree l x (head1 (Jvm.Cond.code x code maxLocals ret :: ws) room_1) (fun aR U => aR = #[(.long le), (.long st), (.long t1), (.long t2), (.long q), (.int fl)] ∧ Z.Warmed39 U.vm ∧ U.heap = h0) (fun _ _ _ _ _ => True) (fun _ U o U' => ∃ v L, o = .returned v ∧ Q0 h0 n0 v U'.heap L ∧ FrameEnd U o U' L room_1.cells room_1.slots) := by
  refine MetFree.of_bodySF (plainFor_of_name pn_0) hisR ?_
  intro p e s m args below meth c s₁ Bd hml0 hP hK
  obtain ⟨rfl, hZ, hhE⟩ := hP
  have hx := Bd.exec
  have hby := Bd.bytes
  have hml : c.maxLocals = 21 := hml0
  have hown : s.vm.findClass "com/example/causeway/causeway/server/HandoverWaitDuePinLaw" = some m.cls := findClass_of_methodNamed Bd.named
  have hnm := (name_of_methodNamed Bd.named Bd.method).1
  have X0 : Stand p l e room_1 s m #[(.long le), (.long st), (.long t1), (.long t2), (.long q), (.int fl)] below meth c s₁ [] 0 0 := Stand.of_body Bd
  have e0 : s₁.heap = h0 := by rw [← hhE, Bd.state]; rfl
  have N0 := Fr.nil n0
  show own_Go p e below (own_Post s (Q0 h0 n0) room_1.cells room_1.slots) (s₁.setTop (entryFrame m #[(.long le), (.long st), (.long t1), (.long t2), (.long q), (.int fl)] maxLocals))
  rw [ef_rm0_0_0]
  generalize hG : own_Post s (Q0 h0 n0) room_1.cells room_1.slots = G
  refine own_iload X0 hx (hb hby at_0) rfl 2 rfl ?_
  refine own_bipush X0 hx (hb hby at_2) (7 : Int32) rfl 4 rfl ?_
  refine own_iand X0 hx (hb hby at_4) 5 rfl ?_
  refine own_iconst X0 hx (hb hby at_5) (5 : Int32) rfl 6 rfl ?_
  refine own_irem X0 hx (hb hby at_6) (by decide) 7 rfl ?_
  generalize hy144 : ((fl &&& (7 : Int32)) % (5 : Int32)) = y144
  refine own_istore X0 hx (hb hby at_7) #[.val (.long le), .second, .val (.long st), .second, .val (.long t1), .second, .val (.long t2), .second, .val (.long q), .second, .val (.int fl), .val (.int y144), .unset, .unset, .unset, .unset, .unset, .unset, .unset, .unset, .unset] rfl 9 rfl ?_
  obtain rfl : y144 = 0 := hy144.symm.trans hmd
  refine own_iload X0 hx (hb hby at_9) rfl 11 rfl ?_
  refine own_bipush X0 hx (hb hby at_11) (8 : Int32) rfl 13 rfl ?_
  refine own_iand X0 hx (hb hby at_13) 14 rfl ?_
  refine own_ifY X0 hx (hb hby at_14) ((if0 _ _).trans (teq hgv).1) 21 ⟨by decide, by decide⟩ ?_
  refine own_iconst X0 hx (hb hby at_21) (0 : Int32) rfl 22 rfl ?_
  refine own_istore X0 hx (hb hby at_22) #[.val (.long le), .second, .val (.long st), .second, .val (.long t1), .second, .val (.long t2), .second, .val (.long q), .second, .val (.int fl), .val (.int (0 : Int32)), .val (.int (0 : Int32)), .unset, .unset, .unset, .unset, .unset, .unset, .unset, .unset] rfl 24 rfl ?_
  refine own_iload X0 hx (hb hby at_24) rfl 26 rfl ?_
  refine own_bipush X0 hx (hb hby at_26) (16 : Int32) rfl 28 rfl ?_
  refine own_iand X0 hx (hb hby at_28) 29 rfl ?_
  by_cases c145 : (fl &&& (16 : Int32)) = (0 : Int32)
  ·
    refine own_ifY X0 hx (hb hby at_29) ((if0 _ _).trans (teq c145).1) 36 ⟨by decide, by decide⟩ ?_
    refine own_iconst X0 hx (hb hby at_36) (0 : Int32) rfl 37 rfl ?_
    refine own_istore X0 hx (hb hby at_37) #[.val (.long le), .second, .val (.long st), .second, .val (.long t1), .second, .val (.long t2), .second, .val (.long q), .second, .val (.int fl), .val (.int (0 : Int32)), .val (.int (0 : Int32)), .val (.int (0 : Int32)), .unset, .unset, .unset, .unset, .unset, .unset, .unset] rfl 39 rfl ?_
    refine own_newO X0 hx hZ hown (own_w hw 0 rfl) (own_w hw 1 rfl) (own_w hw 2 rfl) e0 (hb hby at_39) (by decide) (by decide) 42 rfl (fun T146 h146 a146 g146 X146 e146 E146 A146 D146 => ?_)
    have ge147 : n0 ≤ a146 := by rw [g146]; exact Z0
    have Z148 : n0 ≤ h146.size := Nat.le_trans Z0 E146.1
    have O150 := O0.ext E146
    have F151 : Fld Z h146 a146 "com/example/causeway/causeway/server/HandoverWait" "leaseNanos" "J" (.long (0 : Int64)) := D146 (Or.inr (own_w hw 10 rfl)) (ty := .long) (by decide)
    have F152 : Fld Z h146 a146 "com/example/causeway/causeway/server/HandoverWait" "waitNanos" "J" (.long (0 : Int64)) := D146 (Or.inl (own_w hw 12 rfl)) (ty := .long) (by decide)
    have F153 : Fld Z h146 a146 "com/example/causeway/causeway/server/HandoverWait" "retryAfter" "J" (.long (0 : Int64)) := D146 (Or.inl (own_w hw 14 rfl)) (ty := .long) (by decide)
    have F154 : Fld Z h146 a146 "com/example/causeway/causeway/server/HandoverWait" "caughtUp" "Z" (.int (0 : Int32)) := D146 (Or.inl (own_w hw 21 rfl)) (ty := .boolean) (by decide)
    have F155 : Fld Z h146 a146 "com/example/causeway/causeway/server/HandoverWait" "caughtUpSince" "J" (.long (0 : Int64)) := D146 (Or.inl (own_w hw 23 rfl)) (ty := .long) (by decide)
    have F156 : Fld Z h146 a146 "com/example/causeway/causeway/server/HandoverWait" "led" "Z" (.int (0 : Int32)) := D146 (Or.inl (own_w hw 43 rfl)) (ty := .boolean) (by decide)
    have F157 : Fld Z h146 a146 "com/example/causeway/causeway/server/HandoverWait" "ledSince" "J" (.long (0 : Int64)) := D146 (Or.inl (own_w hw 45 rfl)) (ty := .long) (by decide)
    have F158 : Fld Z h146 a146 "com/example/causeway/causeway/server/HandoverWait" "ledUntil" "J" (.long (0 : Int64)) := D146 (Or.inl (own_w hw 47 rfl)) (ty := .long) (by decide)
    refine own_dup X146 hx (hb hby at_42) rfl 43 rfl ?_
    refine own_lloadN X146 hx (hb hby at_43) rfl 44 rfl ?_
    refine own_lloadN X146 hx (hb hby at_44) rfl 45 rfl ?_
    refine own_callI X146 hx hZ rfl hown (own_w hw 3 rfl) (own_w hw 4 rfl) (own_w hw 2 rfl) (own_w hw 5 rfl) (by decide) e146 (rm1 l Z a0 hw [] a146 le st h146 n0 Z148 ge147 ⟨A146, F151, F152, F153, F154, F155, F156, F157, F158⟩) (by rw [hml]; rfl) pd_0 (argsL := [(.long le), (.long st)]) rfl (rest := [(.ref a146)]) rfl (hb hby at_45) 1 (Nat.le_of_eq rfl) (by decide) (by decide) (by decide) (by decide) 48 rfl (fun T159 L159 v159 X159 hQ159 => ?_)
    obtain ⟨rfl, N159, K159, E159, F0_159, F1_159, F2_159, F3_159, F4_159, F5_159, F6_159, F7_159⟩ := hQ159
    have N160 := Fr.app N0 N159
    have O162 := O150.keep K159 (allS ge147 all0)
    have Z163 : n0 ≤ T159.heap.size := Nat.le_trans Z148 K159.1
    show own_Go p e below G (T159.setTop (mkF m 48 #[.val (.long le), .second, .val (.long st), .second, .val (.long t1), .second, .val (.long t2), .second, .val (.long q), .second, .val (.int fl), .val (.int (0 : Int32)), .val (.int (0 : Int32)), .val (.int (0 : Int32)), .unset, .unset, .unset, .unset, .unset, .unset, .unset] [(.ref a146)]))
    refine own_astore X159 hx (hb hby at_48) rfl #[.val (.long le), .second, .val (.long st), .second, .val (.long t1), .second, .val (.long t2), .second, .val (.long q), .second, .val (.int fl), .val (.int (0 : Int32)), .val (.int (0 : Int32)), .val (.int (0 : Int32)), .val (.ref a146), .unset, .unset, .unset, .unset, .unset, .unset] rfl 50 rfl ?_
    refine own_iload X159 hx (hb hby at_50) rfl 52 rfl ?_
    refine own_ifY X159 hx (hb hby at_52) ((if0 _ _).trans (teq (by decide)).1) 64 ⟨by decide, by decide⟩ ?_
    refine own_iload X159 hx (hb hby at_64) rfl 66 rfl ?_
    refine own_iconst X159 hx (hb hby at_66) (1 : Int32) rfl 67 rfl ?_
    refine own_icmpY X159 hx (hb hby at_67) (tlt (by decide)).1 77 ⟨by decide, by decide⟩ ?_
    refine own_iload X159 hx (hb hby at_77) rfl 79 rfl ?_
    refine own_iconst X159 hx (hb hby at_79) (2 : Int32) rfl 80 rfl ?_
    refine own_icmpY X159 hx (hb hby at_80) (feq (by decide)).2 90 ⟨by decide, by decide⟩ ?_
    refine own_iload X159 hx (hb hby at_90) rfl 92 rfl ?_
    refine own_iconst X159 hx (hb hby at_92) (3 : Int32) rfl 93 rfl ?_
    refine own_icmpY X159 hx (hb hby at_93) (tlt (by decide)).1 101 ⟨by decide, by decide⟩ ?_
    refine own_iload X159 hx (hb hby at_101) rfl 103 rfl ?_
    refine own_iconst X159 hx (hb hby at_103) (4 : Int32) rfl 104 rfl ?_
    refine own_icmpY X159 hx (hb hby at_104) (feq (by decide)).2 114 ⟨by decide, by decide⟩ ?_
    refine own_iload X159 hx (hb hby at_114) rfl 116 rfl ?_
    refine own_ifY X159 hx (hb hby at_116) ((if0 _ _).trans (teq (by decide)).1) 125 ⟨by decide, by decide⟩ ?_
    refine own_iload X159 hx (hb hby at_125) rfl 127 rfl ?_
    refine own_iconst X159 hx (hb hby at_127) (1 : Int32) rfl 128 rfl ?_
    refine own_icmpN X159 hx (hb hby at_128) (feq (by decide)).1 131 rfl ?_
    refine own_iload X159 hx (hb hby at_131) rfl 133 rfl ?_
    refine own_iconst X159 hx (hb hby at_133) (2 : Int32) rfl 134 rfl ?_
    refine own_icmpN X159 hx (hb hby at_134) (feq (by decide)).1 137 rfl ?_
    refine own_iload X159 hx (hb hby at_137) rfl 139 rfl ?_
    refine own_iconst X159 hx (hb hby at_139) (4 : Int32) rfl 140 rfl ?_
    refine own_icmpY X159 hx (hb hby at_140) (feq (by decide)).2 147 ⟨by decide, by decide⟩ ?_
    refine own_iconst X159 hx (hb hby at_147) (0 : Int32) rfl 148 rfl ?_
    refine own_istore X159 hx (hb hby at_148) #[.val (.long le), .second, .val (.long st), .second, .val (.long t1), .second, .val (.long t2), .second, .val (.long q), .second, .val (.int fl), .val (.int (0 : Int32)), .val (.int (0 : Int32)), .val (.int (0 : Int32)), .val (.ref a146), .val (.int (0 : Int32)), .unset, .unset, .unset, .unset, .unset] rfl 150 rfl ?_
    refine own_iload X159 hx (hb hby at_150) rfl 152 rfl ?_
    refine own_iconst X159 hx (hb hby at_152) (4 : Int32) rfl 153 rfl ?_
    refine own_icmpY X159 hx (hb hby at_153) (feq (by decide)).2 161 ⟨by decide, by decide⟩ ?_
    refine own_lload X159 hx (hb hby at_161) rfl 163 rfl ?_
    refine own_lstore X159 hx (hb hby at_163) #[.val (.long le), .second, .val (.long st), .second, .val (.long t1), .second, .val (.long t2), .second, .val (.long q), .second, .val (.int fl), .val (.int (0 : Int32)), .val (.int (0 : Int32)), .val (.int (0 : Int32)), .val (.ref a146), .val (.int (0 : Int32)), .val (.long t1), .second, .unset, .unset, .unset] rfl 165 rfl ?_
    refine own_iload X159 hx (hb hby at_165) rfl 167 rfl ?_
    refine own_ifY X159 hx (hb hby at_167) ((if0 _ _).trans (teq (by decide)).1) 178 ⟨by decide, by decide⟩ ?_
    refine own_lloadN X159 hx (hb hby at_178) rfl 179 rfl ?_
    refine own_lstore X159 hx (hb hby at_179) #[.val (.long le), .second, .val (.long st), .second, .val (.long t1), .second, .val (.long t2), .second, .val (.long q), .second, .val (.int fl), .val (.int (0 : Int32)), .val (.int (0 : Int32)), .val (.int (0 : Int32)), .val (.ref a146), .val (.int (0 : Int32)), .val (.long t1), .second, .val (.long st), .second, .unset] rfl 181 rfl ?_
    suffices kj165 : ∀ u164 : Int32, u164 = own_due (0 : Int32) t1 le st q → own_Go p e below G (T159.setTop (mkF m 211 #[.val (.long le), .second, .val (.long st), .second, .val (.long t1), .second, .val (.long t2), .second, .val (.long q), .second, .val (.int fl), .val (.int (0 : Int32)), .val (.int (0 : Int32)), .val (.int (0 : Int32)), .val (.ref a146), .val (.int (0 : Int32)), .val (.long t1), .second, .val (.long st), .second, .unset] [(.int u164)])) by
      refine own_iload X159 hx (hb hby at_181) rfl 183 rfl ?_
      refine own_ifY X159 hx (hb hby at_183) ((if0 _ _).trans (teq (by decide)).1) 210 ⟨by decide, by decide⟩ ?_
      refine own_iconst X159 hx (hb hby at_210) (0 : Int32) rfl 211 rfl ?_
      exact kj165 (0 : Int32) (by simp [own_due, c145])
    intro u164 hu164
    refine own_istore X159 hx (hb hby at_211) #[.val (.long le), .second, .val (.long st), .second, .val (.long t1), .second, .val (.long t2), .second, .val (.long q), .second, .val (.int fl), .val (.int (0 : Int32)), .val (.int (0 : Int32)), .val (.int (0 : Int32)), .val (.ref a146), .val (.int (0 : Int32)), .val (.long t1), .second, .val (.long st), .second, .val (.int u164)] rfl 213 rfl ?_
    refine own_aload X159 hx (hb hby at_213) rfl rfl 215 rfl ?_
    refine own_lload X159 hx (hb hby at_215) rfl 217 rfl ?_
    refine own_callV X159 hx hZ hown (own_w hw 24 rfl) (own_w hw 25 rfl) (own_w hw 27 rfl) (notFace_of_selects (args := #[]) (mvT hZ (own_w hw 27 rfl))) (own_w hw 26 rfl) (own_w hw 2 rfl) (own_w hw 28 rfl) (by decide) (rfl : T159.heap = T159.heap) E159 (rm4 l Z a0 hw [] a146 q le le st (0 : Int32) (0 : Int64) (0 : Int32) (0 : Int64) (0 : Int64) T159.heap n0 Z163 ge147 ⟨E159, F0_159, F1_159, F2_159, F3_159, F4_159, F5_159, F6_159, F7_159⟩) (by rw [hml]; rfl) pd_1 (argsL := [(.long q)]) rfl (rest := []) rfl (hb hby at_217) 0 (Nat.le_of_eq rfl) (by decide) (by decide) (by decide) (by decide) 220 rfl (fun T166 L166 v166 X166 hQ166 => ?_)
    obtain ⟨rfl, N166, e166⟩ := hQ166
    have N167 := Fr.app N160 N166
    show own_Go p e below G (T166.setTop (mkF m 220 #[.val (.long le), .second, .val (.long st), .second, .val (.long t1), .second, .val (.long t2), .second, .val (.long q), .second, .val (.int fl), .val (.int (0 : Int32)), .val (.int (0 : Int32)), .val (.int (0 : Int32)), .val (.ref a146), .val (.int (0 : Int32)), .val (.long t1), .second, .val (.long st), .second, .val (.int u164)] [(.int (own_due (0 : Int32) (0 : Int64) le st q))]))
    refine own_iload X166 hx (hb hby at_220) rfl 222 rfl ?_
    refine own_icmpN X166 hx (hb hby at_222) (teq (by subst hu164; simp [own_due])).2 225 rfl ?_
    refine own_iconst X166 hx (hb hby at_225) (1 : Int32) rfl 226 rfl ?_
    refine own_goto X166 hx (hb hby at_226) 230 ⟨by decide, by decide⟩ ?_
    refine own_nreturn X166 hx Bd.notSynchronized hG Bd.returns (by simp) (hb hby at_230) (by decide) (by decide) ?_
    rw [e166]
    exact ⟨rfl, N167⟩
  ·
    refine own_ifN X0 hx (hb hby at_29) ((if0 _ _).trans (feq c145).1) 32 rfl ?_
    refine own_iconst X0 hx (hb hby at_32) (1 : Int32) rfl 33 rfl ?_
    refine own_goto X0 hx (hb hby at_33) 37 ⟨by decide, by decide⟩ ?_
    refine own_istore X0 hx (hb hby at_37) #[.val (.long le), .second, .val (.long st), .second, .val (.long t1), .second, .val (.long t2), .second, .val (.long q), .second, .val (.int fl), .val (.int (0 : Int32)), .val (.int (0 : Int32)), .val (.int (1 : Int32)), .unset, .unset, .unset, .unset, .unset, .unset, .unset] rfl 39 rfl ?_
    refine own_newO X0 hx hZ hown (own_w hw 0 rfl) (own_w hw 1 rfl) (own_w hw 2 rfl) e0 (hb hby at_39) (by decide) (by decide) 42 rfl (fun T168 h168 a168 g168 X168 e168 E168 A168 D168 => ?_)
    have ge169 : n0 ≤ a168 := by rw [g168]; exact Z0
    have Z170 : n0 ≤ h168.size := Nat.le_trans Z0 E168.1
    have O172 := O0.ext E168
    have F173 : Fld Z h168 a168 "com/example/causeway/causeway/server/HandoverWait" "leaseNanos" "J" (.long (0 : Int64)) := D168 (Or.inr (own_w hw 10 rfl)) (ty := .long) (by decide)
    have F174 : Fld Z h168 a168 "com/example/causeway/causeway/server/HandoverWait" "waitNanos" "J" (.long (0 : Int64)) := D168 (Or.inl (own_w hw 12 rfl)) (ty := .long) (by decide)
    have F175 : Fld Z h168 a168 "com/example/causeway/causeway/server/HandoverWait" "retryAfter" "J" (.long (0 : Int64)) := D168 (Or.inl (own_w hw 14 rfl)) (ty := .long) (by decide)
    have F176 : Fld Z h168 a168 "com/example/causeway/causeway/server/HandoverWait" "caughtUp" "Z" (.int (0 : Int32)) := D168 (Or.inl (own_w hw 21 rfl)) (ty := .boolean) (by decide)
    have F177 : Fld Z h168 a168 "com/example/causeway/causeway/server/HandoverWait" "caughtUpSince" "J" (.long (0 : Int64)) := D168 (Or.inl (own_w hw 23 rfl)) (ty := .long) (by decide)
    have F178 : Fld Z h168 a168 "com/example/causeway/causeway/server/HandoverWait" "led" "Z" (.int (0 : Int32)) := D168 (Or.inl (own_w hw 43 rfl)) (ty := .boolean) (by decide)
    have F179 : Fld Z h168 a168 "com/example/causeway/causeway/server/HandoverWait" "ledSince" "J" (.long (0 : Int64)) := D168 (Or.inl (own_w hw 45 rfl)) (ty := .long) (by decide)
    have F180 : Fld Z h168 a168 "com/example/causeway/causeway/server/HandoverWait" "ledUntil" "J" (.long (0 : Int64)) := D168 (Or.inl (own_w hw 47 rfl)) (ty := .long) (by decide)
    refine own_dup X168 hx (hb hby at_42) rfl 43 rfl ?_
    refine own_lloadN X168 hx (hb hby at_43) rfl 44 rfl ?_
    refine own_lloadN X168 hx (hb hby at_44) rfl 45 rfl ?_
    refine own_callI X168 hx hZ rfl hown (own_w hw 3 rfl) (own_w hw 4 rfl) (own_w hw 2 rfl) (own_w hw 5 rfl) (by decide) e168 (rm1 l Z a0 hw [] a168 le st h168 n0 Z170 ge169 ⟨A168, F173, F174, F175, F176, F177, F178, F179, F180⟩) (by rw [hml]; rfl) pd_0 (argsL := [(.long le), (.long st)]) rfl (rest := [(.ref a168)]) rfl (hb hby at_45) 1 (Nat.le_of_eq rfl) (by decide) (by decide) (by decide) (by decide) 48 rfl (fun T181 L181 v181 X181 hQ181 => ?_)
    obtain ⟨rfl, N181, K181, E181, F0_181, F1_181, F2_181, F3_181, F4_181, F5_181, F6_181, F7_181⟩ := hQ181
    have N182 := Fr.app N0 N181
    have O184 := O172.keep K181 (allS ge169 all0)
    have Z185 : n0 ≤ T181.heap.size := Nat.le_trans Z170 K181.1
    show own_Go p e below G (T181.setTop (mkF m 48 #[.val (.long le), .second, .val (.long st), .second, .val (.long t1), .second, .val (.long t2), .second, .val (.long q), .second, .val (.int fl), .val (.int (0 : Int32)), .val (.int (0 : Int32)), .val (.int (1 : Int32)), .unset, .unset, .unset, .unset, .unset, .unset, .unset] [(.ref a168)]))
    refine own_astore X181 hx (hb hby at_48) rfl #[.val (.long le), .second, .val (.long st), .second, .val (.long t1), .second, .val (.long t2), .second, .val (.long q), .second, .val (.int fl), .val (.int (0 : Int32)), .val (.int (0 : Int32)), .val (.int (1 : Int32)), .val (.ref a168), .unset, .unset, .unset, .unset, .unset, .unset] rfl 50 rfl ?_
    refine own_iload X181 hx (hb hby at_50) rfl 52 rfl ?_
    refine own_ifN X181 hx (hb hby at_52) ((if0 _ _).trans (feq (by decide)).1) 55 rfl ?_
    refine own_aload X181 hx (hb hby at_55) rfl rfl 57 rfl ?_
    refine own_iconst X181 hx (hb hby at_57) (1 : Int32) rfl 58 rfl ?_
    refine own_lload X181 hx (hb hby at_58) rfl 60 rfl ?_
    refine own_callV X181 hx hZ hown (own_w hw 37 rfl) (own_w hw 38 rfl) (own_w hw 40 rfl) (notFace_of_selects (args := #[]) (mvT hZ (own_w hw 40 rfl))) (own_w hw 39 rfl) (own_w hw 2 rfl) (own_w hw 41 rfl) (by decide) (rfl : T181.heap = T181.heap) E181 (rm6 l Z a0 hw [] a168 t1 le le st (0 : Int32) (0 : Int64) (0 : Int64) (0 : Int64) T181.heap n0 Z185 ge169 ⟨E181, F0_181, F1_181, F2_181, F3_181, F4_181, F5_181, F6_181, F7_181⟩) (by rw [hml]; rfl) pd_2 (argsL := [(.int (1 : Int32)), (.long t1)]) rfl (rest := []) rfl (hb hby at_60) 0 (Nat.le_of_eq rfl) (by decide) (by decide) (by decide) (by decide) 63 rfl (fun T186 L186 v186 X186 hQ186 => ?_)
    have hQ186 : v186 = some (.int (0 : Int32)) ∧ Fr n0 L186 ∧ Keep T181.heap T186.heap [a168] ∧ own_HW Z T186.heap a168 le le st (0 : Int32) (0 : Int64) (1 : Int32) t1 t1 := hQ186
    obtain ⟨rfl, N186, K186, E186, F0_186, F1_186, F2_186, F3_186, F4_186, F5_186, F6_186, F7_186⟩ := hQ186
    have N187 := Fr.app N182 N186
    have O189 := O184.keep K186 (allS ge169 all0)
    have Z190 : n0 ≤ T186.heap.size := Nat.le_trans Z185 K186.1
    show own_Go p e below G (T186.setTop (mkF m 63 #[.val (.long le), .second, .val (.long st), .second, .val (.long t1), .second, .val (.long t2), .second, .val (.long q), .second, .val (.int fl), .val (.int (0 : Int32)), .val (.int (0 : Int32)), .val (.int (1 : Int32)), .val (.ref a168), .unset, .unset, .unset, .unset, .unset, .unset] [(.int (0 : Int32))]))
    refine own_pop X186 hx (hb hby at_63) rfl 64 rfl ?_
    refine own_iload X186 hx (hb hby at_64) rfl 66 rfl ?_
    refine own_iconst X186 hx (hb hby at_66) (1 : Int32) rfl 67 rfl ?_
    refine own_icmpY X186 hx (hb hby at_67) (tlt (by decide)).1 77 ⟨by decide, by decide⟩ ?_
    refine own_iload X186 hx (hb hby at_77) rfl 79 rfl ?_
    refine own_iconst X186 hx (hb hby at_79) (2 : Int32) rfl 80 rfl ?_
    refine own_icmpY X186 hx (hb hby at_80) (feq (by decide)).2 90 ⟨by decide, by decide⟩ ?_
    refine own_iload X186 hx (hb hby at_90) rfl 92 rfl ?_
    refine own_iconst X186 hx (hb hby at_92) (3 : Int32) rfl 93 rfl ?_
    refine own_icmpY X186 hx (hb hby at_93) (tlt (by decide)).1 101 ⟨by decide, by decide⟩ ?_
    refine own_iload X186 hx (hb hby at_101) rfl 103 rfl ?_
    refine own_iconst X186 hx (hb hby at_103) (4 : Int32) rfl 104 rfl ?_
    refine own_icmpY X186 hx (hb hby at_104) (feq (by decide)).2 114 ⟨by decide, by decide⟩ ?_
    refine own_iload X186 hx (hb hby at_114) rfl 116 rfl ?_
    refine own_ifY X186 hx (hb hby at_116) ((if0 _ _).trans (teq (by decide)).1) 125 ⟨by decide, by decide⟩ ?_
    refine own_iload X186 hx (hb hby at_125) rfl 127 rfl ?_
    refine own_iconst X186 hx (hb hby at_127) (1 : Int32) rfl 128 rfl ?_
    refine own_icmpN X186 hx (hb hby at_128) (feq (by decide)).1 131 rfl ?_
    refine own_iload X186 hx (hb hby at_131) rfl 133 rfl ?_
    refine own_iconst X186 hx (hb hby at_133) (2 : Int32) rfl 134 rfl ?_
    refine own_icmpN X186 hx (hb hby at_134) (feq (by decide)).1 137 rfl ?_
    refine own_iload X186 hx (hb hby at_137) rfl 139 rfl ?_
    refine own_iconst X186 hx (hb hby at_139) (4 : Int32) rfl 140 rfl ?_
    refine own_icmpY X186 hx (hb hby at_140) (feq (by decide)).2 147 ⟨by decide, by decide⟩ ?_
    refine own_iconst X186 hx (hb hby at_147) (0 : Int32) rfl 148 rfl ?_
    refine own_istore X186 hx (hb hby at_148) #[.val (.long le), .second, .val (.long st), .second, .val (.long t1), .second, .val (.long t2), .second, .val (.long q), .second, .val (.int fl), .val (.int (0 : Int32)), .val (.int (0 : Int32)), .val (.int (1 : Int32)), .val (.ref a168), .val (.int (0 : Int32)), .unset, .unset, .unset, .unset, .unset] rfl 150 rfl ?_
    refine own_iload X186 hx (hb hby at_150) rfl 152 rfl ?_
    refine own_iconst X186 hx (hb hby at_152) (4 : Int32) rfl 153 rfl ?_
    refine own_icmpY X186 hx (hb hby at_153) (feq (by decide)).2 161 ⟨by decide, by decide⟩ ?_
    refine own_lload X186 hx (hb hby at_161) rfl 163 rfl ?_
    refine own_lstore X186 hx (hb hby at_163) #[.val (.long le), .second, .val (.long st), .second, .val (.long t1), .second, .val (.long t2), .second, .val (.long q), .second, .val (.int fl), .val (.int (0 : Int32)), .val (.int (0 : Int32)), .val (.int (1 : Int32)), .val (.ref a168), .val (.int (0 : Int32)), .val (.long t1), .second, .unset, .unset, .unset] rfl 165 rfl ?_
    refine own_iload X186 hx (hb hby at_165) rfl 167 rfl ?_
    refine own_ifY X186 hx (hb hby at_167) ((if0 _ _).trans (teq (by decide)).1) 178 ⟨by decide, by decide⟩ ?_
    refine own_lloadN X186 hx (hb hby at_178) rfl 179 rfl ?_
    refine own_lstore X186 hx (hb hby at_179) #[.val (.long le), .second, .val (.long st), .second, .val (.long t1), .second, .val (.long t2), .second, .val (.long q), .second, .val (.int fl), .val (.int (0 : Int32)), .val (.int (0 : Int32)), .val (.int (1 : Int32)), .val (.ref a168), .val (.int (0 : Int32)), .val (.long t1), .second, .val (.long st), .second, .unset] rfl 181 rfl ?_
    suffices kj192 : ∀ u191 : Int32, u191 = own_due (0 : Int32) t1 le st q → own_Go p e below G (T186.setTop (mkF m 211 #[.val (.long le), .second, .val (.long st), .second, .val (.long t1), .second, .val (.long t2), .second, .val (.long q), .second, .val (.int fl), .val (.int (0 : Int32)), .val (.int (0 : Int32)), .val (.int (1 : Int32)), .val (.ref a168), .val (.int (0 : Int32)), .val (.long t1), .second, .val (.long st), .second, .unset] [(.int u191)])) by
      refine own_iload X186 hx (hb hby at_181) rfl 183 rfl ?_
      refine own_ifY X186 hx (hb hby at_183) ((if0 _ _).trans (teq (by decide)).1) 210 ⟨by decide, by decide⟩ ?_
      refine own_iconst X186 hx (hb hby at_210) (0 : Int32) rfl 211 rfl ?_
      exact kj192 (0 : Int32) (by simp [own_due, c145])
    intro u191 hu191
    refine own_istore X186 hx (hb hby at_211) #[.val (.long le), .second, .val (.long st), .second, .val (.long t1), .second, .val (.long t2), .second, .val (.long q), .second, .val (.int fl), .val (.int (0 : Int32)), .val (.int (0 : Int32)), .val (.int (1 : Int32)), .val (.ref a168), .val (.int (0 : Int32)), .val (.long t1), .second, .val (.long st), .second, .val (.int u191)] rfl 213 rfl ?_
    refine own_aload X186 hx (hb hby at_213) rfl rfl 215 rfl ?_
    refine own_lload X186 hx (hb hby at_215) rfl 217 rfl ?_
    refine own_callV X186 hx hZ hown (own_w hw 24 rfl) (own_w hw 25 rfl) (own_w hw 27 rfl) (notFace_of_selects (args := #[]) (mvT hZ (own_w hw 27 rfl))) (own_w hw 26 rfl) (own_w hw 2 rfl) (own_w hw 28 rfl) (by decide) (rfl : T186.heap = T186.heap) E186 (rm4 l Z a0 hw [] a168 q le le st (0 : Int32) (0 : Int64) (1 : Int32) t1 t1 T186.heap n0 Z190 ge169 ⟨E186, F0_186, F1_186, F2_186, F3_186, F4_186, F5_186, F6_186, F7_186⟩) (by rw [hml]; rfl) pd_1 (argsL := [(.long q)]) rfl (rest := []) rfl (hb hby at_217) 0 (Nat.le_of_eq rfl) (by decide) (by decide) (by decide) (by decide) 220 rfl (fun T193 L193 v193 X193 hQ193 => ?_)
    obtain ⟨rfl, N193, e193⟩ := hQ193
    have N194 := Fr.app N187 N193
    show own_Go p e below G (T193.setTop (mkF m 220 #[.val (.long le), .second, .val (.long st), .second, .val (.long t1), .second, .val (.long t2), .second, .val (.long q), .second, .val (.int fl), .val (.int (0 : Int32)), .val (.int (0 : Int32)), .val (.int (1 : Int32)), .val (.ref a168), .val (.int (0 : Int32)), .val (.long t1), .second, .val (.long st), .second, .val (.int u191)] [(.int (own_due (0 : Int32) (0 : Int64) le st q))]))
    refine own_iload X193 hx (hb hby at_220) rfl 222 rfl ?_
    refine own_icmpN X193 hx (hb hby at_222) (teq (by subst hu191; simp [own_due])).2 225 rfl ?_
    refine own_iconst X193 hx (hb hby at_225) (1 : Int32) rfl 226 rfl ?_
    refine own_goto X193 hx (hb hby at_226) 230 ⟨by decide, by decide⟩ ?_
    refine own_nreturn X193 hx Bd.notSynchronized hG Bd.returns (by simp) (hb hby at_230) (by decide) (by decide) ?_
    rw [e193]
    exact ⟨rfl, N194⟩
theorem ef_rm0_0_1 (m : MethodId) (x0 : Int64) (x1 : Int64) (x2 : Int64) (x3 : Int64) (x4 : Int64) (x5 : Int32) : entryFrame m #[(.long x0), (.long x1), (.long x2), (.long x3), (.long x4), (.int x5)] maxLocals = mkF m 0 #[.val (.long x0), .second, .val (.long x1), .second, .val (.long x2), .second, .val (.long x3), .second, .val (.long x4), .second, .val (.int x5), .unset, .unset, .unset, .unset, .unset, .unset, .unset, .unset, .unset, .unset] [] := by first | (simp [entryFrame, mkF, argsToLocals, Value.category, maxLocals]; done) | rfl
set_option maxRecDepth 65536 in
set_option maxHeartbeats 40000000 in
theorem rm0_0_1 (l : Launch) (Z : State) (a0 : Array Value) (hw : ∀ d ∈ tables_1, d.before a0 Z = true) (ws : List Jvm.Cond) (le st t1 t2 q : Int64) (fl : Int32) (h0 : Heap) (n0 : Nat) (Z0 : n0 ≤ h0.size) (O0 : Old Z n0 h0) (S0 : Sta Z Z.heap "com/example/causeway/causeway/server/HandoverWait" "RETRY_NANOS" "J" (.long 5000000000)) (hmd : (fl &&& (7 : Int32)) % (5 : Int32) = 0) (hgv : ¬ (fl &&& (8 : Int32)) = (0 : Int32)) :
    MetFree l x (head1 (Jvm.Cond.code x code maxLocals ret :: ws) room_1) (fun aR U => aR = #[(.long le), (.long st), (.long t1), (.long t2), (.long q), (.int fl)] ∧ Z.Warmed39 U.vm ∧ U.heap = h0) (fun _ _ _ _ _ => True) (fun _ U o U' => ∃ v L, o = .returned v ∧ Q0 h0 n0 v U'.heap L ∧ FrameEnd U o U' L room_1.cells room_1.slots) := by
  refine MetFree.of_bodySF (plainFor_of_name pn_0) hisR ?_
  intro p e s m args below meth c s₁ Bd hml0 hP hK
  obtain ⟨rfl, hZ, hhE⟩ := hP
  have hx := Bd.exec
  have hby := Bd.bytes
  have hml : c.maxLocals = 21 := hml0
  have hown : s.vm.findClass "com/example/causeway/causeway/server/HandoverWaitDuePinLaw" = some m.cls := findClass_of_methodNamed Bd.named
  have hnm := (name_of_methodNamed Bd.named Bd.method).1
  have X0 : Stand p l e room_1 s m #[(.long le), (.long st), (.long t1), (.long t2), (.long q), (.int fl)] below meth c s₁ [] 0 0 := Stand.of_body Bd
  have e0 : s₁.heap = h0 := by rw [← hhE, Bd.state]; rfl
  have N0 := Fr.nil n0
  show own_Go p e below (own_Post s (Q0 h0 n0) room_1.cells room_1.slots) (s₁.setTop (entryFrame m #[(.long le), (.long st), (.long t1), (.long t2), (.long q), (.int fl)] maxLocals))
  rw [ef_rm0_0_1]
  generalize hG : own_Post s (Q0 h0 n0) room_1.cells room_1.slots = G
  refine own_iload X0 hx (hb hby at_0) rfl 2 rfl ?_
  refine own_bipush X0 hx (hb hby at_2) (7 : Int32) rfl 4 rfl ?_
  refine own_iand X0 hx (hb hby at_4) 5 rfl ?_
  refine own_iconst X0 hx (hb hby at_5) (5 : Int32) rfl 6 rfl ?_
  refine own_irem X0 hx (hb hby at_6) (by decide) 7 rfl ?_
  generalize hy195 : ((fl &&& (7 : Int32)) % (5 : Int32)) = y195
  refine own_istore X0 hx (hb hby at_7) #[.val (.long le), .second, .val (.long st), .second, .val (.long t1), .second, .val (.long t2), .second, .val (.long q), .second, .val (.int fl), .val (.int y195), .unset, .unset, .unset, .unset, .unset, .unset, .unset, .unset, .unset] rfl 9 rfl ?_
  obtain rfl : y195 = 0 := hy195.symm.trans hmd
  refine own_iload X0 hx (hb hby at_9) rfl 11 rfl ?_
  refine own_bipush X0 hx (hb hby at_11) (8 : Int32) rfl 13 rfl ?_
  refine own_iand X0 hx (hb hby at_13) 14 rfl ?_
  refine own_ifN X0 hx (hb hby at_14) ((if0 _ _).trans (feq hgv).1) 17 rfl ?_
  refine own_iconst X0 hx (hb hby at_17) (1 : Int32) rfl 18 rfl ?_
  refine own_goto X0 hx (hb hby at_18) 22 ⟨by decide, by decide⟩ ?_
  refine own_istore X0 hx (hb hby at_22) #[.val (.long le), .second, .val (.long st), .second, .val (.long t1), .second, .val (.long t2), .second, .val (.long q), .second, .val (.int fl), .val (.int (0 : Int32)), .val (.int (1 : Int32)), .unset, .unset, .unset, .unset, .unset, .unset, .unset, .unset] rfl 24 rfl ?_
  refine own_iload X0 hx (hb hby at_24) rfl 26 rfl ?_
  refine own_bipush X0 hx (hb hby at_26) (16 : Int32) rfl 28 rfl ?_
  refine own_iand X0 hx (hb hby at_28) 29 rfl ?_
  by_cases c196 : (fl &&& (16 : Int32)) = (0 : Int32)
  ·
    refine own_ifY X0 hx (hb hby at_29) ((if0 _ _).trans (teq c196).1) 36 ⟨by decide, by decide⟩ ?_
    refine own_iconst X0 hx (hb hby at_36) (0 : Int32) rfl 37 rfl ?_
    refine own_istore X0 hx (hb hby at_37) #[.val (.long le), .second, .val (.long st), .second, .val (.long t1), .second, .val (.long t2), .second, .val (.long q), .second, .val (.int fl), .val (.int (0 : Int32)), .val (.int (1 : Int32)), .val (.int (0 : Int32)), .unset, .unset, .unset, .unset, .unset, .unset, .unset] rfl 39 rfl ?_
    refine own_newO X0 hx hZ hown (own_w hw 0 rfl) (own_w hw 1 rfl) (own_w hw 2 rfl) e0 (hb hby at_39) (by decide) (by decide) 42 rfl (fun T197 h197 a197 g197 X197 e197 E197 A197 D197 => ?_)
    have ge198 : n0 ≤ a197 := by rw [g197]; exact Z0
    have Z199 : n0 ≤ h197.size := Nat.le_trans Z0 E197.1
    have O201 := O0.ext E197
    have F202 : Fld Z h197 a197 "com/example/causeway/causeway/server/HandoverWait" "leaseNanos" "J" (.long (0 : Int64)) := D197 (Or.inr (own_w hw 10 rfl)) (ty := .long) (by decide)
    have F203 : Fld Z h197 a197 "com/example/causeway/causeway/server/HandoverWait" "waitNanos" "J" (.long (0 : Int64)) := D197 (Or.inl (own_w hw 12 rfl)) (ty := .long) (by decide)
    have F204 : Fld Z h197 a197 "com/example/causeway/causeway/server/HandoverWait" "retryAfter" "J" (.long (0 : Int64)) := D197 (Or.inl (own_w hw 14 rfl)) (ty := .long) (by decide)
    have F205 : Fld Z h197 a197 "com/example/causeway/causeway/server/HandoverWait" "caughtUp" "Z" (.int (0 : Int32)) := D197 (Or.inl (own_w hw 21 rfl)) (ty := .boolean) (by decide)
    have F206 : Fld Z h197 a197 "com/example/causeway/causeway/server/HandoverWait" "caughtUpSince" "J" (.long (0 : Int64)) := D197 (Or.inl (own_w hw 23 rfl)) (ty := .long) (by decide)
    have F207 : Fld Z h197 a197 "com/example/causeway/causeway/server/HandoverWait" "led" "Z" (.int (0 : Int32)) := D197 (Or.inl (own_w hw 43 rfl)) (ty := .boolean) (by decide)
    have F208 : Fld Z h197 a197 "com/example/causeway/causeway/server/HandoverWait" "ledSince" "J" (.long (0 : Int64)) := D197 (Or.inl (own_w hw 45 rfl)) (ty := .long) (by decide)
    have F209 : Fld Z h197 a197 "com/example/causeway/causeway/server/HandoverWait" "ledUntil" "J" (.long (0 : Int64)) := D197 (Or.inl (own_w hw 47 rfl)) (ty := .long) (by decide)
    refine own_dup X197 hx (hb hby at_42) rfl 43 rfl ?_
    refine own_lloadN X197 hx (hb hby at_43) rfl 44 rfl ?_
    refine own_lloadN X197 hx (hb hby at_44) rfl 45 rfl ?_
    refine own_callI X197 hx hZ rfl hown (own_w hw 3 rfl) (own_w hw 4 rfl) (own_w hw 2 rfl) (own_w hw 5 rfl) (by decide) e197 (rm1 l Z a0 hw [] a197 le st h197 n0 Z199 ge198 ⟨A197, F202, F203, F204, F205, F206, F207, F208, F209⟩) (by rw [hml]; rfl) pd_0 (argsL := [(.long le), (.long st)]) rfl (rest := [(.ref a197)]) rfl (hb hby at_45) 1 (Nat.le_of_eq rfl) (by decide) (by decide) (by decide) (by decide) 48 rfl (fun T210 L210 v210 X210 hQ210 => ?_)
    obtain ⟨rfl, N210, K210, E210, F0_210, F1_210, F2_210, F3_210, F4_210, F5_210, F6_210, F7_210⟩ := hQ210
    have N211 := Fr.app N0 N210
    have O213 := O201.keep K210 (allS ge198 all0)
    have Z214 : n0 ≤ T210.heap.size := Nat.le_trans Z199 K210.1
    show own_Go p e below G (T210.setTop (mkF m 48 #[.val (.long le), .second, .val (.long st), .second, .val (.long t1), .second, .val (.long t2), .second, .val (.long q), .second, .val (.int fl), .val (.int (0 : Int32)), .val (.int (1 : Int32)), .val (.int (0 : Int32)), .unset, .unset, .unset, .unset, .unset, .unset, .unset] [(.ref a197)]))
    refine own_astore X210 hx (hb hby at_48) rfl #[.val (.long le), .second, .val (.long st), .second, .val (.long t1), .second, .val (.long t2), .second, .val (.long q), .second, .val (.int fl), .val (.int (0 : Int32)), .val (.int (1 : Int32)), .val (.int (0 : Int32)), .val (.ref a197), .unset, .unset, .unset, .unset, .unset, .unset] rfl 50 rfl ?_
    refine own_iload X210 hx (hb hby at_50) rfl 52 rfl ?_
    refine own_ifY X210 hx (hb hby at_52) ((if0 _ _).trans (teq (by decide)).1) 64 ⟨by decide, by decide⟩ ?_
    refine own_iload X210 hx (hb hby at_64) rfl 66 rfl ?_
    refine own_iconst X210 hx (hb hby at_66) (1 : Int32) rfl 67 rfl ?_
    refine own_icmpY X210 hx (hb hby at_67) (tlt (by decide)).1 77 ⟨by decide, by decide⟩ ?_
    refine own_iload X210 hx (hb hby at_77) rfl 79 rfl ?_
    refine own_iconst X210 hx (hb hby at_79) (2 : Int32) rfl 80 rfl ?_
    refine own_icmpY X210 hx (hb hby at_80) (feq (by decide)).2 90 ⟨by decide, by decide⟩ ?_
    refine own_iload X210 hx (hb hby at_90) rfl 92 rfl ?_
    refine own_iconst X210 hx (hb hby at_92) (3 : Int32) rfl 93 rfl ?_
    refine own_icmpY X210 hx (hb hby at_93) (tlt (by decide)).1 101 ⟨by decide, by decide⟩ ?_
    refine own_iload X210 hx (hb hby at_101) rfl 103 rfl ?_
    refine own_iconst X210 hx (hb hby at_103) (4 : Int32) rfl 104 rfl ?_
    refine own_icmpY X210 hx (hb hby at_104) (feq (by decide)).2 114 ⟨by decide, by decide⟩ ?_
    refine own_iload X210 hx (hb hby at_114) rfl 116 rfl ?_
    refine own_ifN X210 hx (hb hby at_116) ((if0 _ _).trans (feq (by decide)).1) 119 rfl ?_
    refine own_aload X210 hx (hb hby at_119) rfl rfl 121 rfl ?_
    refine own_lloadN X210 hx (hb hby at_121) rfl 122 rfl ?_
    refine own_callV X210 hx hZ hown (own_w hw 29 rfl) (own_w hw 30 rfl) (own_w hw 32 rfl) (notFace_of_selects (args := #[]) (mvT hZ (own_w hw 32 rfl))) (own_w hw 31 rfl) (own_w hw 2 rfl) (own_w hw 33 rfl) (by decide) (rfl : T210.heap = T210.heap) E210 (rm5 l Z a0 hw [] a197 st le le st (0 : Int32) (0 : Int64) (0 : Int32) (0 : Int64) (0 : Int64) T210.heap n0 Z214 ge198 ⟨E210, F0_210, F1_210, F2_210, F3_210, F4_210, F5_210, F6_210, F7_210⟩ O213 S0) (by rw [hml]; rfl) pd_3 (argsL := [(.long st)]) rfl (rest := []) rfl (hb hby at_122) 0 (Nat.le_of_eq rfl) (by decide) (by decide) (by decide) (by decide) 125 rfl (fun T215 L215 v215 X215 hQ215 => ?_)
    have hQ215 : v215 = none ∧ Fr n0 L215 ∧ Keep T210.heap T215.heap [a197] ∧ own_HW Z T215.heap a197 le le (st + 5000000000) (0 : Int32) (0 : Int64) (0 : Int32) (0 : Int64) (0 : Int64) := hQ215
    obtain ⟨rfl, N215, K215, E215, F0_215, F1_215, F2_215, F3_215, F4_215, F5_215, F6_215, F7_215⟩ := hQ215
    have N216 := Fr.app N211 N215
    have O218 := O213.keep K215 (allS ge198 all0)
    have Z219 : n0 ≤ T215.heap.size := Nat.le_trans Z214 K215.1
    show own_Go p e below G (T215.setTop (mkF m 125 #[.val (.long le), .second, .val (.long st), .second, .val (.long t1), .second, .val (.long t2), .second, .val (.long q), .second, .val (.int fl), .val (.int (0 : Int32)), .val (.int (1 : Int32)), .val (.int (0 : Int32)), .val (.ref a197), .unset, .unset, .unset, .unset, .unset, .unset] []))
    refine own_iload X215 hx (hb hby at_125) rfl 127 rfl ?_
    refine own_iconst X215 hx (hb hby at_127) (1 : Int32) rfl 128 rfl ?_
    refine own_icmpN X215 hx (hb hby at_128) (feq (by decide)).1 131 rfl ?_
    refine own_iload X215 hx (hb hby at_131) rfl 133 rfl ?_
    refine own_iconst X215 hx (hb hby at_133) (2 : Int32) rfl 134 rfl ?_
    refine own_icmpN X215 hx (hb hby at_134) (feq (by decide)).1 137 rfl ?_
    refine own_iload X215 hx (hb hby at_137) rfl 139 rfl ?_
    refine own_iconst X215 hx (hb hby at_139) (4 : Int32) rfl 140 rfl ?_
    refine own_icmpY X215 hx (hb hby at_140) (feq (by decide)).2 147 ⟨by decide, by decide⟩ ?_
    refine own_iconst X215 hx (hb hby at_147) (0 : Int32) rfl 148 rfl ?_
    refine own_istore X215 hx (hb hby at_148) #[.val (.long le), .second, .val (.long st), .second, .val (.long t1), .second, .val (.long t2), .second, .val (.long q), .second, .val (.int fl), .val (.int (0 : Int32)), .val (.int (1 : Int32)), .val (.int (0 : Int32)), .val (.ref a197), .val (.int (0 : Int32)), .unset, .unset, .unset, .unset, .unset] rfl 150 rfl ?_
    refine own_iload X215 hx (hb hby at_150) rfl 152 rfl ?_
    refine own_iconst X215 hx (hb hby at_152) (4 : Int32) rfl 153 rfl ?_
    refine own_icmpY X215 hx (hb hby at_153) (feq (by decide)).2 161 ⟨by decide, by decide⟩ ?_
    refine own_lload X215 hx (hb hby at_161) rfl 163 rfl ?_
    refine own_lstore X215 hx (hb hby at_163) #[.val (.long le), .second, .val (.long st), .second, .val (.long t1), .second, .val (.long t2), .second, .val (.long q), .second, .val (.int fl), .val (.int (0 : Int32)), .val (.int (1 : Int32)), .val (.int (0 : Int32)), .val (.ref a197), .val (.int (0 : Int32)), .val (.long t1), .second, .unset, .unset, .unset] rfl 165 rfl ?_
    refine own_iload X215 hx (hb hby at_165) rfl 167 rfl ?_
    refine own_ifN X215 hx (hb hby at_167) ((if0 _ _).trans (feq (by decide)).1) 170 rfl ?_
    refine own_lloadN X215 hx (hb hby at_170) rfl 171 rfl ?_
    refine own_ldc2Long X215 hx hown (mvT hZ (own_w hw 36 rfl)) (hb hby at_171) 174 rfl ?_
    refine own_ladd X215 hx (hb hby at_174) 175 rfl ?_
    refine own_goto X215 hx (hb hby at_175) 179 ⟨by decide, by decide⟩ ?_
    refine own_lstore X215 hx (hb hby at_179) #[.val (.long le), .second, .val (.long st), .second, .val (.long t1), .second, .val (.long t2), .second, .val (.long q), .second, .val (.int fl), .val (.int (0 : Int32)), .val (.int (1 : Int32)), .val (.int (0 : Int32)), .val (.ref a197), .val (.int (0 : Int32)), .val (.long t1), .second, .val (.long (st + (5000000000 : Int64))), .second, .unset] rfl 181 rfl ?_
    suffices kj221 : ∀ u220 : Int32, u220 = own_due (0 : Int32) t1 le (st + (5000000000 : Int64)) q → own_Go p e below G (T215.setTop (mkF m 211 #[.val (.long le), .second, .val (.long st), .second, .val (.long t1), .second, .val (.long t2), .second, .val (.long q), .second, .val (.int fl), .val (.int (0 : Int32)), .val (.int (1 : Int32)), .val (.int (0 : Int32)), .val (.ref a197), .val (.int (0 : Int32)), .val (.long t1), .second, .val (.long (st + (5000000000 : Int64))), .second, .unset] [(.int u220)])) by
      refine own_iload X215 hx (hb hby at_181) rfl 183 rfl ?_
      refine own_ifY X215 hx (hb hby at_183) ((if0 _ _).trans (teq (by decide)).1) 210 ⟨by decide, by decide⟩ ?_
      refine own_iconst X215 hx (hb hby at_210) (0 : Int32) rfl 211 rfl ?_
      exact kj221 (0 : Int32) (by simp [own_due, c196])
    intro u220 hu220
    refine own_istore X215 hx (hb hby at_211) #[.val (.long le), .second, .val (.long st), .second, .val (.long t1), .second, .val (.long t2), .second, .val (.long q), .second, .val (.int fl), .val (.int (0 : Int32)), .val (.int (1 : Int32)), .val (.int (0 : Int32)), .val (.ref a197), .val (.int (0 : Int32)), .val (.long t1), .second, .val (.long (st + (5000000000 : Int64))), .second, .val (.int u220)] rfl 213 rfl ?_
    refine own_aload X215 hx (hb hby at_213) rfl rfl 215 rfl ?_
    refine own_lload X215 hx (hb hby at_215) rfl 217 rfl ?_
    refine own_callV X215 hx hZ hown (own_w hw 24 rfl) (own_w hw 25 rfl) (own_w hw 27 rfl) (notFace_of_selects (args := #[]) (mvT hZ (own_w hw 27 rfl))) (own_w hw 26 rfl) (own_w hw 2 rfl) (own_w hw 28 rfl) (by decide) (rfl : T215.heap = T215.heap) E215 (rm4 l Z a0 hw [] a197 q le le (st + 5000000000) (0 : Int32) (0 : Int64) (0 : Int32) (0 : Int64) (0 : Int64) T215.heap n0 Z219 ge198 ⟨E215, F0_215, F1_215, F2_215, F3_215, F4_215, F5_215, F6_215, F7_215⟩) (by rw [hml]; rfl) pd_1 (argsL := [(.long q)]) rfl (rest := []) rfl (hb hby at_217) 0 (Nat.le_of_eq rfl) (by decide) (by decide) (by decide) (by decide) 220 rfl (fun T222 L222 v222 X222 hQ222 => ?_)
    obtain ⟨rfl, N222, e222⟩ := hQ222
    have N223 := Fr.app N216 N222
    show own_Go p e below G (T222.setTop (mkF m 220 #[.val (.long le), .second, .val (.long st), .second, .val (.long t1), .second, .val (.long t2), .second, .val (.long q), .second, .val (.int fl), .val (.int (0 : Int32)), .val (.int (1 : Int32)), .val (.int (0 : Int32)), .val (.ref a197), .val (.int (0 : Int32)), .val (.long t1), .second, .val (.long (st + (5000000000 : Int64))), .second, .val (.int u220)] [(.int (own_due (0 : Int32) (0 : Int64) le (st + 5000000000) q))]))
    refine own_iload X222 hx (hb hby at_220) rfl 222 rfl ?_
    refine own_icmpN X222 hx (hb hby at_222) (teq (by subst hu220; simp [own_due])).2 225 rfl ?_
    refine own_iconst X222 hx (hb hby at_225) (1 : Int32) rfl 226 rfl ?_
    refine own_goto X222 hx (hb hby at_226) 230 ⟨by decide, by decide⟩ ?_
    refine own_nreturn X222 hx Bd.notSynchronized hG Bd.returns (by simp) (hb hby at_230) (by decide) (by decide) ?_
    rw [e222]
    exact ⟨rfl, N223⟩
  ·
    refine own_ifN X0 hx (hb hby at_29) ((if0 _ _).trans (feq c196).1) 32 rfl ?_
    refine own_iconst X0 hx (hb hby at_32) (1 : Int32) rfl 33 rfl ?_
    refine own_goto X0 hx (hb hby at_33) 37 ⟨by decide, by decide⟩ ?_
    refine own_istore X0 hx (hb hby at_37) #[.val (.long le), .second, .val (.long st), .second, .val (.long t1), .second, .val (.long t2), .second, .val (.long q), .second, .val (.int fl), .val (.int (0 : Int32)), .val (.int (1 : Int32)), .val (.int (1 : Int32)), .unset, .unset, .unset, .unset, .unset, .unset, .unset] rfl 39 rfl ?_
    refine own_newO X0 hx hZ hown (own_w hw 0 rfl) (own_w hw 1 rfl) (own_w hw 2 rfl) e0 (hb hby at_39) (by decide) (by decide) 42 rfl (fun T224 h224 a224 g224 X224 e224 E224 A224 D224 => ?_)
    have ge225 : n0 ≤ a224 := by rw [g224]; exact Z0
    have Z226 : n0 ≤ h224.size := Nat.le_trans Z0 E224.1
    have O228 := O0.ext E224
    have F229 : Fld Z h224 a224 "com/example/causeway/causeway/server/HandoverWait" "leaseNanos" "J" (.long (0 : Int64)) := D224 (Or.inr (own_w hw 10 rfl)) (ty := .long) (by decide)
    have F230 : Fld Z h224 a224 "com/example/causeway/causeway/server/HandoverWait" "waitNanos" "J" (.long (0 : Int64)) := D224 (Or.inl (own_w hw 12 rfl)) (ty := .long) (by decide)
    have F231 : Fld Z h224 a224 "com/example/causeway/causeway/server/HandoverWait" "retryAfter" "J" (.long (0 : Int64)) := D224 (Or.inl (own_w hw 14 rfl)) (ty := .long) (by decide)
    have F232 : Fld Z h224 a224 "com/example/causeway/causeway/server/HandoverWait" "caughtUp" "Z" (.int (0 : Int32)) := D224 (Or.inl (own_w hw 21 rfl)) (ty := .boolean) (by decide)
    have F233 : Fld Z h224 a224 "com/example/causeway/causeway/server/HandoverWait" "caughtUpSince" "J" (.long (0 : Int64)) := D224 (Or.inl (own_w hw 23 rfl)) (ty := .long) (by decide)
    have F234 : Fld Z h224 a224 "com/example/causeway/causeway/server/HandoverWait" "led" "Z" (.int (0 : Int32)) := D224 (Or.inl (own_w hw 43 rfl)) (ty := .boolean) (by decide)
    have F235 : Fld Z h224 a224 "com/example/causeway/causeway/server/HandoverWait" "ledSince" "J" (.long (0 : Int64)) := D224 (Or.inl (own_w hw 45 rfl)) (ty := .long) (by decide)
    have F236 : Fld Z h224 a224 "com/example/causeway/causeway/server/HandoverWait" "ledUntil" "J" (.long (0 : Int64)) := D224 (Or.inl (own_w hw 47 rfl)) (ty := .long) (by decide)
    refine own_dup X224 hx (hb hby at_42) rfl 43 rfl ?_
    refine own_lloadN X224 hx (hb hby at_43) rfl 44 rfl ?_
    refine own_lloadN X224 hx (hb hby at_44) rfl 45 rfl ?_
    refine own_callI X224 hx hZ rfl hown (own_w hw 3 rfl) (own_w hw 4 rfl) (own_w hw 2 rfl) (own_w hw 5 rfl) (by decide) e224 (rm1 l Z a0 hw [] a224 le st h224 n0 Z226 ge225 ⟨A224, F229, F230, F231, F232, F233, F234, F235, F236⟩) (by rw [hml]; rfl) pd_0 (argsL := [(.long le), (.long st)]) rfl (rest := [(.ref a224)]) rfl (hb hby at_45) 1 (Nat.le_of_eq rfl) (by decide) (by decide) (by decide) (by decide) 48 rfl (fun T237 L237 v237 X237 hQ237 => ?_)
    obtain ⟨rfl, N237, K237, E237, F0_237, F1_237, F2_237, F3_237, F4_237, F5_237, F6_237, F7_237⟩ := hQ237
    have N238 := Fr.app N0 N237
    have O240 := O228.keep K237 (allS ge225 all0)
    have Z241 : n0 ≤ T237.heap.size := Nat.le_trans Z226 K237.1
    show own_Go p e below G (T237.setTop (mkF m 48 #[.val (.long le), .second, .val (.long st), .second, .val (.long t1), .second, .val (.long t2), .second, .val (.long q), .second, .val (.int fl), .val (.int (0 : Int32)), .val (.int (1 : Int32)), .val (.int (1 : Int32)), .unset, .unset, .unset, .unset, .unset, .unset, .unset] [(.ref a224)]))
    refine own_astore X237 hx (hb hby at_48) rfl #[.val (.long le), .second, .val (.long st), .second, .val (.long t1), .second, .val (.long t2), .second, .val (.long q), .second, .val (.int fl), .val (.int (0 : Int32)), .val (.int (1 : Int32)), .val (.int (1 : Int32)), .val (.ref a224), .unset, .unset, .unset, .unset, .unset, .unset] rfl 50 rfl ?_
    refine own_iload X237 hx (hb hby at_50) rfl 52 rfl ?_
    refine own_ifN X237 hx (hb hby at_52) ((if0 _ _).trans (feq (by decide)).1) 55 rfl ?_
    refine own_aload X237 hx (hb hby at_55) rfl rfl 57 rfl ?_
    refine own_iconst X237 hx (hb hby at_57) (1 : Int32) rfl 58 rfl ?_
    refine own_lload X237 hx (hb hby at_58) rfl 60 rfl ?_
    refine own_callV X237 hx hZ hown (own_w hw 37 rfl) (own_w hw 38 rfl) (own_w hw 40 rfl) (notFace_of_selects (args := #[]) (mvT hZ (own_w hw 40 rfl))) (own_w hw 39 rfl) (own_w hw 2 rfl) (own_w hw 41 rfl) (by decide) (rfl : T237.heap = T237.heap) E237 (rm6 l Z a0 hw [] a224 t1 le le st (0 : Int32) (0 : Int64) (0 : Int64) (0 : Int64) T237.heap n0 Z241 ge225 ⟨E237, F0_237, F1_237, F2_237, F3_237, F4_237, F5_237, F6_237, F7_237⟩) (by rw [hml]; rfl) pd_2 (argsL := [(.int (1 : Int32)), (.long t1)]) rfl (rest := []) rfl (hb hby at_60) 0 (Nat.le_of_eq rfl) (by decide) (by decide) (by decide) (by decide) 63 rfl (fun T242 L242 v242 X242 hQ242 => ?_)
    have hQ242 : v242 = some (.int (0 : Int32)) ∧ Fr n0 L242 ∧ Keep T237.heap T242.heap [a224] ∧ own_HW Z T242.heap a224 le le st (0 : Int32) (0 : Int64) (1 : Int32) t1 t1 := hQ242
    obtain ⟨rfl, N242, K242, E242, F0_242, F1_242, F2_242, F3_242, F4_242, F5_242, F6_242, F7_242⟩ := hQ242
    have N243 := Fr.app N238 N242
    have O245 := O240.keep K242 (allS ge225 all0)
    have Z246 : n0 ≤ T242.heap.size := Nat.le_trans Z241 K242.1
    show own_Go p e below G (T242.setTop (mkF m 63 #[.val (.long le), .second, .val (.long st), .second, .val (.long t1), .second, .val (.long t2), .second, .val (.long q), .second, .val (.int fl), .val (.int (0 : Int32)), .val (.int (1 : Int32)), .val (.int (1 : Int32)), .val (.ref a224), .unset, .unset, .unset, .unset, .unset, .unset] [(.int (0 : Int32))]))
    refine own_pop X242 hx (hb hby at_63) rfl 64 rfl ?_
    refine own_iload X242 hx (hb hby at_64) rfl 66 rfl ?_
    refine own_iconst X242 hx (hb hby at_66) (1 : Int32) rfl 67 rfl ?_
    refine own_icmpY X242 hx (hb hby at_67) (tlt (by decide)).1 77 ⟨by decide, by decide⟩ ?_
    refine own_iload X242 hx (hb hby at_77) rfl 79 rfl ?_
    refine own_iconst X242 hx (hb hby at_79) (2 : Int32) rfl 80 rfl ?_
    refine own_icmpY X242 hx (hb hby at_80) (feq (by decide)).2 90 ⟨by decide, by decide⟩ ?_
    refine own_iload X242 hx (hb hby at_90) rfl 92 rfl ?_
    refine own_iconst X242 hx (hb hby at_92) (3 : Int32) rfl 93 rfl ?_
    refine own_icmpY X242 hx (hb hby at_93) (tlt (by decide)).1 101 ⟨by decide, by decide⟩ ?_
    refine own_iload X242 hx (hb hby at_101) rfl 103 rfl ?_
    refine own_iconst X242 hx (hb hby at_103) (4 : Int32) rfl 104 rfl ?_
    refine own_icmpY X242 hx (hb hby at_104) (feq (by decide)).2 114 ⟨by decide, by decide⟩ ?_
    refine own_iload X242 hx (hb hby at_114) rfl 116 rfl ?_
    refine own_ifN X242 hx (hb hby at_116) ((if0 _ _).trans (feq (by decide)).1) 119 rfl ?_
    refine own_aload X242 hx (hb hby at_119) rfl rfl 121 rfl ?_
    refine own_lloadN X242 hx (hb hby at_121) rfl 122 rfl ?_
    refine own_callV X242 hx hZ hown (own_w hw 29 rfl) (own_w hw 30 rfl) (own_w hw 32 rfl) (notFace_of_selects (args := #[]) (mvT hZ (own_w hw 32 rfl))) (own_w hw 31 rfl) (own_w hw 2 rfl) (own_w hw 33 rfl) (by decide) (rfl : T242.heap = T242.heap) E242 (rm5 l Z a0 hw [] a224 st le le st (0 : Int32) (0 : Int64) (1 : Int32) t1 t1 T242.heap n0 Z246 ge225 ⟨E242, F0_242, F1_242, F2_242, F3_242, F4_242, F5_242, F6_242, F7_242⟩ O245 S0) (by rw [hml]; rfl) pd_3 (argsL := [(.long st)]) rfl (rest := []) rfl (hb hby at_122) 0 (Nat.le_of_eq rfl) (by decide) (by decide) (by decide) (by decide) 125 rfl (fun T247 L247 v247 X247 hQ247 => ?_)
    have hQ247 : v247 = none ∧ Fr n0 L247 ∧ Keep T242.heap T247.heap [a224] ∧ own_HW Z T247.heap a224 le le (st + 5000000000) (0 : Int32) (0 : Int64) (1 : Int32) t1 t1 := hQ247
    obtain ⟨rfl, N247, K247, E247, F0_247, F1_247, F2_247, F3_247, F4_247, F5_247, F6_247, F7_247⟩ := hQ247
    have N248 := Fr.app N243 N247
    have O250 := O245.keep K247 (allS ge225 all0)
    have Z251 : n0 ≤ T247.heap.size := Nat.le_trans Z246 K247.1
    show own_Go p e below G (T247.setTop (mkF m 125 #[.val (.long le), .second, .val (.long st), .second, .val (.long t1), .second, .val (.long t2), .second, .val (.long q), .second, .val (.int fl), .val (.int (0 : Int32)), .val (.int (1 : Int32)), .val (.int (1 : Int32)), .val (.ref a224), .unset, .unset, .unset, .unset, .unset, .unset] []))
    refine own_iload X247 hx (hb hby at_125) rfl 127 rfl ?_
    refine own_iconst X247 hx (hb hby at_127) (1 : Int32) rfl 128 rfl ?_
    refine own_icmpN X247 hx (hb hby at_128) (feq (by decide)).1 131 rfl ?_
    refine own_iload X247 hx (hb hby at_131) rfl 133 rfl ?_
    refine own_iconst X247 hx (hb hby at_133) (2 : Int32) rfl 134 rfl ?_
    refine own_icmpN X247 hx (hb hby at_134) (feq (by decide)).1 137 rfl ?_
    refine own_iload X247 hx (hb hby at_137) rfl 139 rfl ?_
    refine own_iconst X247 hx (hb hby at_139) (4 : Int32) rfl 140 rfl ?_
    refine own_icmpY X247 hx (hb hby at_140) (feq (by decide)).2 147 ⟨by decide, by decide⟩ ?_
    refine own_iconst X247 hx (hb hby at_147) (0 : Int32) rfl 148 rfl ?_
    refine own_istore X247 hx (hb hby at_148) #[.val (.long le), .second, .val (.long st), .second, .val (.long t1), .second, .val (.long t2), .second, .val (.long q), .second, .val (.int fl), .val (.int (0 : Int32)), .val (.int (1 : Int32)), .val (.int (1 : Int32)), .val (.ref a224), .val (.int (0 : Int32)), .unset, .unset, .unset, .unset, .unset] rfl 150 rfl ?_
    refine own_iload X247 hx (hb hby at_150) rfl 152 rfl ?_
    refine own_iconst X247 hx (hb hby at_152) (4 : Int32) rfl 153 rfl ?_
    refine own_icmpY X247 hx (hb hby at_153) (feq (by decide)).2 161 ⟨by decide, by decide⟩ ?_
    refine own_lload X247 hx (hb hby at_161) rfl 163 rfl ?_
    refine own_lstore X247 hx (hb hby at_163) #[.val (.long le), .second, .val (.long st), .second, .val (.long t1), .second, .val (.long t2), .second, .val (.long q), .second, .val (.int fl), .val (.int (0 : Int32)), .val (.int (1 : Int32)), .val (.int (1 : Int32)), .val (.ref a224), .val (.int (0 : Int32)), .val (.long t1), .second, .unset, .unset, .unset] rfl 165 rfl ?_
    refine own_iload X247 hx (hb hby at_165) rfl 167 rfl ?_
    refine own_ifN X247 hx (hb hby at_167) ((if0 _ _).trans (feq (by decide)).1) 170 rfl ?_
    refine own_lloadN X247 hx (hb hby at_170) rfl 171 rfl ?_
    refine own_ldc2Long X247 hx hown (mvT hZ (own_w hw 36 rfl)) (hb hby at_171) 174 rfl ?_
    refine own_ladd X247 hx (hb hby at_174) 175 rfl ?_
    refine own_goto X247 hx (hb hby at_175) 179 ⟨by decide, by decide⟩ ?_
    refine own_lstore X247 hx (hb hby at_179) #[.val (.long le), .second, .val (.long st), .second, .val (.long t1), .second, .val (.long t2), .second, .val (.long q), .second, .val (.int fl), .val (.int (0 : Int32)), .val (.int (1 : Int32)), .val (.int (1 : Int32)), .val (.ref a224), .val (.int (0 : Int32)), .val (.long t1), .second, .val (.long (st + (5000000000 : Int64))), .second, .unset] rfl 181 rfl ?_
    suffices kj253 : ∀ u252 : Int32, u252 = own_due (0 : Int32) t1 le (st + (5000000000 : Int64)) q → own_Go p e below G (T247.setTop (mkF m 211 #[.val (.long le), .second, .val (.long st), .second, .val (.long t1), .second, .val (.long t2), .second, .val (.long q), .second, .val (.int fl), .val (.int (0 : Int32)), .val (.int (1 : Int32)), .val (.int (1 : Int32)), .val (.ref a224), .val (.int (0 : Int32)), .val (.long t1), .second, .val (.long (st + (5000000000 : Int64))), .second, .unset] [(.int u252)])) by
      refine own_iload X247 hx (hb hby at_181) rfl 183 rfl ?_
      refine own_ifY X247 hx (hb hby at_183) ((if0 _ _).trans (teq (by decide)).1) 210 ⟨by decide, by decide⟩ ?_
      refine own_iconst X247 hx (hb hby at_210) (0 : Int32) rfl 211 rfl ?_
      exact kj253 (0 : Int32) (by simp [own_due, c196])
    intro u252 hu252
    refine own_istore X247 hx (hb hby at_211) #[.val (.long le), .second, .val (.long st), .second, .val (.long t1), .second, .val (.long t2), .second, .val (.long q), .second, .val (.int fl), .val (.int (0 : Int32)), .val (.int (1 : Int32)), .val (.int (1 : Int32)), .val (.ref a224), .val (.int (0 : Int32)), .val (.long t1), .second, .val (.long (st + (5000000000 : Int64))), .second, .val (.int u252)] rfl 213 rfl ?_
    refine own_aload X247 hx (hb hby at_213) rfl rfl 215 rfl ?_
    refine own_lload X247 hx (hb hby at_215) rfl 217 rfl ?_
    refine own_callV X247 hx hZ hown (own_w hw 24 rfl) (own_w hw 25 rfl) (own_w hw 27 rfl) (notFace_of_selects (args := #[]) (mvT hZ (own_w hw 27 rfl))) (own_w hw 26 rfl) (own_w hw 2 rfl) (own_w hw 28 rfl) (by decide) (rfl : T247.heap = T247.heap) E247 (rm4 l Z a0 hw [] a224 q le le (st + 5000000000) (0 : Int32) (0 : Int64) (1 : Int32) t1 t1 T247.heap n0 Z251 ge225 ⟨E247, F0_247, F1_247, F2_247, F3_247, F4_247, F5_247, F6_247, F7_247⟩) (by rw [hml]; rfl) pd_1 (argsL := [(.long q)]) rfl (rest := []) rfl (hb hby at_217) 0 (Nat.le_of_eq rfl) (by decide) (by decide) (by decide) (by decide) 220 rfl (fun T254 L254 v254 X254 hQ254 => ?_)
    obtain ⟨rfl, N254, e254⟩ := hQ254
    have N255 := Fr.app N248 N254
    show own_Go p e below G (T254.setTop (mkF m 220 #[.val (.long le), .second, .val (.long st), .second, .val (.long t1), .second, .val (.long t2), .second, .val (.long q), .second, .val (.int fl), .val (.int (0 : Int32)), .val (.int (1 : Int32)), .val (.int (1 : Int32)), .val (.ref a224), .val (.int (0 : Int32)), .val (.long t1), .second, .val (.long (st + (5000000000 : Int64))), .second, .val (.int u252)] [(.int (own_due (0 : Int32) (0 : Int64) le (st + 5000000000) q))]))
    refine own_iload X254 hx (hb hby at_220) rfl 222 rfl ?_
    refine own_icmpN X254 hx (hb hby at_222) (teq (by subst hu252; simp [own_due])).2 225 rfl ?_
    refine own_iconst X254 hx (hb hby at_225) (1 : Int32) rfl 226 rfl ?_
    refine own_goto X254 hx (hb hby at_226) 230 ⟨by decide, by decide⟩ ?_
    refine own_nreturn X254 hx Bd.notSynchronized hG Bd.returns (by simp) (hb hby at_230) (by decide) (by decide) ?_
    rw [e254]
    exact ⟨rfl, N255⟩
theorem ef_rm0_1_0 (m : MethodId) (x0 : Int64) (x1 : Int64) (x2 : Int64) (x3 : Int64) (x4 : Int64) (x5 : Int32) : entryFrame m #[(.long x0), (.long x1), (.long x2), (.long x3), (.long x4), (.int x5)] maxLocals = mkF m 0 #[.val (.long x0), .second, .val (.long x1), .second, .val (.long x2), .second, .val (.long x3), .second, .val (.long x4), .second, .val (.int x5), .unset, .unset, .unset, .unset, .unset, .unset, .unset, .unset, .unset, .unset] [] := by first | (simp [entryFrame, mkF, argsToLocals, Value.category, maxLocals]; done) | rfl
set_option maxRecDepth 65536 in
set_option maxHeartbeats 40000000 in
theorem rm0_1_0 (l : Launch) (Z : State) (a0 : Array Value) (hw : ∀ d ∈ tables_1, d.before a0 Z = true) (ws : List Jvm.Cond) (le st t1 t2 q : Int64) (fl : Int32) (h0 : Heap) (n0 : Nat) (Z0 : n0 ≤ h0.size) (O0 : Old Z n0 h0) (S0 : Sta Z Z.heap "com/example/causeway/causeway/server/HandoverWait" "RETRY_NANOS" "J" (.long 5000000000)) (hmd : (fl &&& (7 : Int32)) % (5 : Int32) = 1) (hgv : (fl &&& (8 : Int32)) = (0 : Int32)) :
    MetFree l x (head1 (Jvm.Cond.code x code maxLocals ret :: ws) room_1) (fun aR U => aR = #[(.long le), (.long st), (.long t1), (.long t2), (.long q), (.int fl)] ∧ Z.Warmed39 U.vm ∧ U.heap = h0) (fun _ _ _ _ _ => True) (fun _ U o U' => ∃ v L, o = .returned v ∧ Q0 h0 n0 v U'.heap L ∧ FrameEnd U o U' L room_1.cells room_1.slots) := by
  refine MetFree.of_bodySF (plainFor_of_name pn_0) hisR ?_
  intro p e s m args below meth c s₁ Bd hml0 hP hK
  obtain ⟨rfl, hZ, hhE⟩ := hP
  have hx := Bd.exec
  have hby := Bd.bytes
  have hml : c.maxLocals = 21 := hml0
  have hown : s.vm.findClass "com/example/causeway/causeway/server/HandoverWaitDuePinLaw" = some m.cls := findClass_of_methodNamed Bd.named
  have hnm := (name_of_methodNamed Bd.named Bd.method).1
  have X0 : Stand p l e room_1 s m #[(.long le), (.long st), (.long t1), (.long t2), (.long q), (.int fl)] below meth c s₁ [] 0 0 := Stand.of_body Bd
  have e0 : s₁.heap = h0 := by rw [← hhE, Bd.state]; rfl
  have N0 := Fr.nil n0
  show own_Go p e below (own_Post s (Q0 h0 n0) room_1.cells room_1.slots) (s₁.setTop (entryFrame m #[(.long le), (.long st), (.long t1), (.long t2), (.long q), (.int fl)] maxLocals))
  rw [ef_rm0_1_0]
  generalize hG : own_Post s (Q0 h0 n0) room_1.cells room_1.slots = G
  refine own_iload X0 hx (hb hby at_0) rfl 2 rfl ?_
  refine own_bipush X0 hx (hb hby at_2) (7 : Int32) rfl 4 rfl ?_
  refine own_iand X0 hx (hb hby at_4) 5 rfl ?_
  refine own_iconst X0 hx (hb hby at_5) (5 : Int32) rfl 6 rfl ?_
  refine own_irem X0 hx (hb hby at_6) (by decide) 7 rfl ?_
  generalize hy256 : ((fl &&& (7 : Int32)) % (5 : Int32)) = y256
  refine own_istore X0 hx (hb hby at_7) #[.val (.long le), .second, .val (.long st), .second, .val (.long t1), .second, .val (.long t2), .second, .val (.long q), .second, .val (.int fl), .val (.int y256), .unset, .unset, .unset, .unset, .unset, .unset, .unset, .unset, .unset] rfl 9 rfl ?_
  obtain rfl : y256 = 1 := hy256.symm.trans hmd
  refine own_iload X0 hx (hb hby at_9) rfl 11 rfl ?_
  refine own_bipush X0 hx (hb hby at_11) (8 : Int32) rfl 13 rfl ?_
  refine own_iand X0 hx (hb hby at_13) 14 rfl ?_
  refine own_ifY X0 hx (hb hby at_14) ((if0 _ _).trans (teq hgv).1) 21 ⟨by decide, by decide⟩ ?_
  refine own_iconst X0 hx (hb hby at_21) (0 : Int32) rfl 22 rfl ?_
  refine own_istore X0 hx (hb hby at_22) #[.val (.long le), .second, .val (.long st), .second, .val (.long t1), .second, .val (.long t2), .second, .val (.long q), .second, .val (.int fl), .val (.int (1 : Int32)), .val (.int (0 : Int32)), .unset, .unset, .unset, .unset, .unset, .unset, .unset, .unset] rfl 24 rfl ?_
  refine own_iload X0 hx (hb hby at_24) rfl 26 rfl ?_
  refine own_bipush X0 hx (hb hby at_26) (16 : Int32) rfl 28 rfl ?_
  refine own_iand X0 hx (hb hby at_28) 29 rfl ?_
  by_cases c257 : (fl &&& (16 : Int32)) = (0 : Int32)
  ·
    refine own_ifY X0 hx (hb hby at_29) ((if0 _ _).trans (teq c257).1) 36 ⟨by decide, by decide⟩ ?_
    refine own_iconst X0 hx (hb hby at_36) (0 : Int32) rfl 37 rfl ?_
    refine own_istore X0 hx (hb hby at_37) #[.val (.long le), .second, .val (.long st), .second, .val (.long t1), .second, .val (.long t2), .second, .val (.long q), .second, .val (.int fl), .val (.int (1 : Int32)), .val (.int (0 : Int32)), .val (.int (0 : Int32)), .unset, .unset, .unset, .unset, .unset, .unset, .unset] rfl 39 rfl ?_
    refine own_newO X0 hx hZ hown (own_w hw 0 rfl) (own_w hw 1 rfl) (own_w hw 2 rfl) e0 (hb hby at_39) (by decide) (by decide) 42 rfl (fun T258 h258 a258 g258 X258 e258 E258 A258 D258 => ?_)
    have ge259 : n0 ≤ a258 := by rw [g258]; exact Z0
    have Z260 : n0 ≤ h258.size := Nat.le_trans Z0 E258.1
    have O262 := O0.ext E258
    have F263 : Fld Z h258 a258 "com/example/causeway/causeway/server/HandoverWait" "leaseNanos" "J" (.long (0 : Int64)) := D258 (Or.inr (own_w hw 10 rfl)) (ty := .long) (by decide)
    have F264 : Fld Z h258 a258 "com/example/causeway/causeway/server/HandoverWait" "waitNanos" "J" (.long (0 : Int64)) := D258 (Or.inl (own_w hw 12 rfl)) (ty := .long) (by decide)
    have F265 : Fld Z h258 a258 "com/example/causeway/causeway/server/HandoverWait" "retryAfter" "J" (.long (0 : Int64)) := D258 (Or.inl (own_w hw 14 rfl)) (ty := .long) (by decide)
    have F266 : Fld Z h258 a258 "com/example/causeway/causeway/server/HandoverWait" "caughtUp" "Z" (.int (0 : Int32)) := D258 (Or.inl (own_w hw 21 rfl)) (ty := .boolean) (by decide)
    have F267 : Fld Z h258 a258 "com/example/causeway/causeway/server/HandoverWait" "caughtUpSince" "J" (.long (0 : Int64)) := D258 (Or.inl (own_w hw 23 rfl)) (ty := .long) (by decide)
    have F268 : Fld Z h258 a258 "com/example/causeway/causeway/server/HandoverWait" "led" "Z" (.int (0 : Int32)) := D258 (Or.inl (own_w hw 43 rfl)) (ty := .boolean) (by decide)
    have F269 : Fld Z h258 a258 "com/example/causeway/causeway/server/HandoverWait" "ledSince" "J" (.long (0 : Int64)) := D258 (Or.inl (own_w hw 45 rfl)) (ty := .long) (by decide)
    have F270 : Fld Z h258 a258 "com/example/causeway/causeway/server/HandoverWait" "ledUntil" "J" (.long (0 : Int64)) := D258 (Or.inl (own_w hw 47 rfl)) (ty := .long) (by decide)
    refine own_dup X258 hx (hb hby at_42) rfl 43 rfl ?_
    refine own_lloadN X258 hx (hb hby at_43) rfl 44 rfl ?_
    refine own_lloadN X258 hx (hb hby at_44) rfl 45 rfl ?_
    refine own_callI X258 hx hZ rfl hown (own_w hw 3 rfl) (own_w hw 4 rfl) (own_w hw 2 rfl) (own_w hw 5 rfl) (by decide) e258 (rm1 l Z a0 hw [] a258 le st h258 n0 Z260 ge259 ⟨A258, F263, F264, F265, F266, F267, F268, F269, F270⟩) (by rw [hml]; rfl) pd_0 (argsL := [(.long le), (.long st)]) rfl (rest := [(.ref a258)]) rfl (hb hby at_45) 1 (Nat.le_of_eq rfl) (by decide) (by decide) (by decide) (by decide) 48 rfl (fun T271 L271 v271 X271 hQ271 => ?_)
    obtain ⟨rfl, N271, K271, E271, F0_271, F1_271, F2_271, F3_271, F4_271, F5_271, F6_271, F7_271⟩ := hQ271
    have N272 := Fr.app N0 N271
    have O274 := O262.keep K271 (allS ge259 all0)
    have Z275 : n0 ≤ T271.heap.size := Nat.le_trans Z260 K271.1
    show own_Go p e below G (T271.setTop (mkF m 48 #[.val (.long le), .second, .val (.long st), .second, .val (.long t1), .second, .val (.long t2), .second, .val (.long q), .second, .val (.int fl), .val (.int (1 : Int32)), .val (.int (0 : Int32)), .val (.int (0 : Int32)), .unset, .unset, .unset, .unset, .unset, .unset, .unset] [(.ref a258)]))
    refine own_astore X271 hx (hb hby at_48) rfl #[.val (.long le), .second, .val (.long st), .second, .val (.long t1), .second, .val (.long t2), .second, .val (.long q), .second, .val (.int fl), .val (.int (1 : Int32)), .val (.int (0 : Int32)), .val (.int (0 : Int32)), .val (.ref a258), .unset, .unset, .unset, .unset, .unset, .unset] rfl 50 rfl ?_
    refine own_iload X271 hx (hb hby at_50) rfl 52 rfl ?_
    refine own_ifY X271 hx (hb hby at_52) ((if0 _ _).trans (teq (by decide)).1) 64 ⟨by decide, by decide⟩ ?_
    refine own_iload X271 hx (hb hby at_64) rfl 66 rfl ?_
    refine own_iconst X271 hx (hb hby at_66) (1 : Int32) rfl 67 rfl ?_
    refine own_icmpN X271 hx (hb hby at_67) (flt (by decide)).1 70 rfl ?_
    refine own_aload X271 hx (hb hby at_70) rfl rfl 72 rfl ?_
    refine own_lload X271 hx (hb hby at_72) rfl 74 rfl ?_
    refine own_callV X271 hx hZ hown (own_w hw 15 rfl) (own_w hw 16 rfl) (own_w hw 18 rfl) (notFace_of_selects (args := #[]) (mvT hZ (own_w hw 18 rfl))) (own_w hw 17 rfl) (own_w hw 2 rfl) (own_w hw 19 rfl) (by decide) (rfl : T271.heap = T271.heap) E271 (rm2 l Z a0 hw [] a258 t1 le le st (0 : Int32) (0 : Int64) (0 : Int32) (0 : Int64) (0 : Int64) T271.heap n0 Z275 ge259 ⟨E271, F0_271, F1_271, F2_271, F3_271, F4_271, F5_271, F6_271, F7_271⟩) (by rw [hml]; rfl) pd_3 (argsL := [(.long t1)]) rfl (rest := []) rfl (hb hby at_74) 0 (Nat.le_of_eq rfl) (by decide) (by decide) (by decide) (by decide) 77 rfl (fun T276 L276 v276 X276 hQ276 => ?_)
    have hQ276 : v276 = none ∧ Fr n0 L276 ∧ Keep T271.heap T276.heap [a258] ∧ own_HW Z T276.heap a258 le le st (1 : Int32) t1 (0 : Int32) (0 : Int64) (0 : Int64) := hQ276
    obtain ⟨rfl, N276, K276, E276, F0_276, F1_276, F2_276, F3_276, F4_276, F5_276, F6_276, F7_276⟩ := hQ276
    have N277 := Fr.app N272 N276
    have O279 := O274.keep K276 (allS ge259 all0)
    have Z280 : n0 ≤ T276.heap.size := Nat.le_trans Z275 K276.1
    show own_Go p e below G (T276.setTop (mkF m 77 #[.val (.long le), .second, .val (.long st), .second, .val (.long t1), .second, .val (.long t2), .second, .val (.long q), .second, .val (.int fl), .val (.int (1 : Int32)), .val (.int (0 : Int32)), .val (.int (0 : Int32)), .val (.ref a258), .unset, .unset, .unset, .unset, .unset, .unset] []))
    refine own_iload X276 hx (hb hby at_77) rfl 79 rfl ?_
    refine own_iconst X276 hx (hb hby at_79) (2 : Int32) rfl 80 rfl ?_
    refine own_icmpY X276 hx (hb hby at_80) (feq (by decide)).2 90 ⟨by decide, by decide⟩ ?_
    refine own_iload X276 hx (hb hby at_90) rfl 92 rfl ?_
    refine own_iconst X276 hx (hb hby at_92) (3 : Int32) rfl 93 rfl ?_
    refine own_icmpY X276 hx (hb hby at_93) (tlt (by decide)).1 101 ⟨by decide, by decide⟩ ?_
    refine own_iload X276 hx (hb hby at_101) rfl 103 rfl ?_
    refine own_iconst X276 hx (hb hby at_103) (4 : Int32) rfl 104 rfl ?_
    refine own_icmpY X276 hx (hb hby at_104) (feq (by decide)).2 114 ⟨by decide, by decide⟩ ?_
    refine own_iload X276 hx (hb hby at_114) rfl 116 rfl ?_
    refine own_ifY X276 hx (hb hby at_116) ((if0 _ _).trans (teq (by decide)).1) 125 ⟨by decide, by decide⟩ ?_
    refine own_iload X276 hx (hb hby at_125) rfl 127 rfl ?_
    refine own_iconst X276 hx (hb hby at_127) (1 : Int32) rfl 128 rfl ?_
    refine own_icmpY X276 hx (hb hby at_128) (teq (by decide)).1 143 ⟨by decide, by decide⟩ ?_
    refine own_iconst X276 hx (hb hby at_143) (1 : Int32) rfl 144 rfl ?_
    refine own_goto X276 hx (hb hby at_144) 148 ⟨by decide, by decide⟩ ?_
    refine own_istore X276 hx (hb hby at_148) #[.val (.long le), .second, .val (.long st), .second, .val (.long t1), .second, .val (.long t2), .second, .val (.long q), .second, .val (.int fl), .val (.int (1 : Int32)), .val (.int (0 : Int32)), .val (.int (0 : Int32)), .val (.ref a258), .val (.int (1 : Int32)), .unset, .unset, .unset, .unset, .unset] rfl 150 rfl ?_
    refine own_iload X276 hx (hb hby at_150) rfl 152 rfl ?_
    refine own_iconst X276 hx (hb hby at_152) (4 : Int32) rfl 153 rfl ?_
    refine own_icmpY X276 hx (hb hby at_153) (feq (by decide)).2 161 ⟨by decide, by decide⟩ ?_
    refine own_lload X276 hx (hb hby at_161) rfl 163 rfl ?_
    refine own_lstore X276 hx (hb hby at_163) #[.val (.long le), .second, .val (.long st), .second, .val (.long t1), .second, .val (.long t2), .second, .val (.long q), .second, .val (.int fl), .val (.int (1 : Int32)), .val (.int (0 : Int32)), .val (.int (0 : Int32)), .val (.ref a258), .val (.int (1 : Int32)), .val (.long t1), .second, .unset, .unset, .unset] rfl 165 rfl ?_
    refine own_iload X276 hx (hb hby at_165) rfl 167 rfl ?_
    refine own_ifY X276 hx (hb hby at_167) ((if0 _ _).trans (teq (by decide)).1) 178 ⟨by decide, by decide⟩ ?_
    refine own_lloadN X276 hx (hb hby at_178) rfl 179 rfl ?_
    refine own_lstore X276 hx (hb hby at_179) #[.val (.long le), .second, .val (.long st), .second, .val (.long t1), .second, .val (.long t2), .second, .val (.long q), .second, .val (.int fl), .val (.int (1 : Int32)), .val (.int (0 : Int32)), .val (.int (0 : Int32)), .val (.ref a258), .val (.int (1 : Int32)), .val (.long t1), .second, .val (.long st), .second, .unset] rfl 181 rfl ?_
    suffices kj282 : ∀ u281 : Int32, u281 = own_due (1 : Int32) t1 le st q → own_Go p e below G (T276.setTop (mkF m 211 #[.val (.long le), .second, .val (.long st), .second, .val (.long t1), .second, .val (.long t2), .second, .val (.long q), .second, .val (.int fl), .val (.int (1 : Int32)), .val (.int (0 : Int32)), .val (.int (0 : Int32)), .val (.ref a258), .val (.int (1 : Int32)), .val (.long t1), .second, .val (.long st), .second, .unset] [(.int u281)])) by
      refine own_iload X276 hx (hb hby at_181) rfl 183 rfl ?_
      refine own_ifN X276 hx (hb hby at_183) ((if0 _ _).trans (feq (by decide)).1) 186 rfl ?_
      refine own_lload X276 hx (hb hby at_186) rfl 188 rfl ?_
      refine own_lload X276 hx (hb hby at_188) rfl 190 rfl ?_
      refine own_lsub X276 hx (hb hby at_190) 191 rfl ?_
      refine own_lloadN X276 hx (hb hby at_191) rfl 192 rfl ?_
      refine own_lcmp X276 hx (hb hby at_192) 193 rfl ?_
      by_cases c283 : (q - t1) < le
      ·
        refine own_ifY X276 hx (hb hby at_193) (own_ltL c283).1 210 ⟨by decide, by decide⟩ ?_
        refine own_iconst X276 hx (hb hby at_210) (0 : Int32) rfl 211 rfl ?_
        exact kj282 (0 : Int32) (by simp [own_due, c257, c283])
      ·
        refine own_ifN X276 hx (hb hby at_193) (own_nltL c283).1 196 rfl ?_
        refine own_lload X276 hx (hb hby at_196) rfl 198 rfl ?_
        refine own_lload X276 hx (hb hby at_198) rfl 200 rfl ?_
        refine own_lsub X276 hx (hb hby at_200) 201 rfl ?_
        refine own_lconst X276 hx (hb hby at_201) (0 : Int64) rfl 202 rfl ?_
        refine own_lcmp X276 hx (hb hby at_202) 203 rfl ?_
        by_cases c284 : (q - st) < (0 : Int64)
        ·
          refine own_ifY X276 hx (hb hby at_203) (own_ltL c284).1 210 ⟨by decide, by decide⟩ ?_
          refine own_iconst X276 hx (hb hby at_210) (0 : Int32) rfl 211 rfl ?_
          exact kj282 (0 : Int32) (by simp [own_due, c257, c283, c284])
        ·
          refine own_ifN X276 hx (hb hby at_203) (own_nltL c284).1 206 rfl ?_
          refine own_iconst X276 hx (hb hby at_206) (1 : Int32) rfl 207 rfl ?_
          refine own_goto X276 hx (hb hby at_207) 211 ⟨by decide, by decide⟩ ?_
          exact kj282 (1 : Int32) (by simp [own_due, c257, c283, c284])
    intro u281 hu281
    refine own_istore X276 hx (hb hby at_211) #[.val (.long le), .second, .val (.long st), .second, .val (.long t1), .second, .val (.long t2), .second, .val (.long q), .second, .val (.int fl), .val (.int (1 : Int32)), .val (.int (0 : Int32)), .val (.int (0 : Int32)), .val (.ref a258), .val (.int (1 : Int32)), .val (.long t1), .second, .val (.long st), .second, .val (.int u281)] rfl 213 rfl ?_
    refine own_aload X276 hx (hb hby at_213) rfl rfl 215 rfl ?_
    refine own_lload X276 hx (hb hby at_215) rfl 217 rfl ?_
    refine own_callV X276 hx hZ hown (own_w hw 24 rfl) (own_w hw 25 rfl) (own_w hw 27 rfl) (notFace_of_selects (args := #[]) (mvT hZ (own_w hw 27 rfl))) (own_w hw 26 rfl) (own_w hw 2 rfl) (own_w hw 28 rfl) (by decide) (rfl : T276.heap = T276.heap) E276 (rm4 l Z a0 hw [] a258 q le le st (1 : Int32) t1 (0 : Int32) (0 : Int64) (0 : Int64) T276.heap n0 Z280 ge259 ⟨E276, F0_276, F1_276, F2_276, F3_276, F4_276, F5_276, F6_276, F7_276⟩) (by rw [hml]; rfl) pd_1 (argsL := [(.long q)]) rfl (rest := []) rfl (hb hby at_217) 0 (Nat.le_of_eq rfl) (by decide) (by decide) (by decide) (by decide) 220 rfl (fun T285 L285 v285 X285 hQ285 => ?_)
    obtain ⟨rfl, N285, e285⟩ := hQ285
    have N286 := Fr.app N277 N285
    show own_Go p e below G (T285.setTop (mkF m 220 #[.val (.long le), .second, .val (.long st), .second, .val (.long t1), .second, .val (.long t2), .second, .val (.long q), .second, .val (.int fl), .val (.int (1 : Int32)), .val (.int (0 : Int32)), .val (.int (0 : Int32)), .val (.ref a258), .val (.int (1 : Int32)), .val (.long t1), .second, .val (.long st), .second, .val (.int u281)] [(.int (own_due (1 : Int32) t1 le st q))]))
    refine own_iload X285 hx (hb hby at_220) rfl 222 rfl ?_
    refine own_icmpN X285 hx (hb hby at_222) (teq (by subst hu281; simp [own_due])).2 225 rfl ?_
    refine own_iconst X285 hx (hb hby at_225) (1 : Int32) rfl 226 rfl ?_
    refine own_goto X285 hx (hb hby at_226) 230 ⟨by decide, by decide⟩ ?_
    refine own_nreturn X285 hx Bd.notSynchronized hG Bd.returns (by simp) (hb hby at_230) (by decide) (by decide) ?_
    rw [e285]
    exact ⟨rfl, N286⟩
  ·
    refine own_ifN X0 hx (hb hby at_29) ((if0 _ _).trans (feq c257).1) 32 rfl ?_
    refine own_iconst X0 hx (hb hby at_32) (1 : Int32) rfl 33 rfl ?_
    refine own_goto X0 hx (hb hby at_33) 37 ⟨by decide, by decide⟩ ?_
    refine own_istore X0 hx (hb hby at_37) #[.val (.long le), .second, .val (.long st), .second, .val (.long t1), .second, .val (.long t2), .second, .val (.long q), .second, .val (.int fl), .val (.int (1 : Int32)), .val (.int (0 : Int32)), .val (.int (1 : Int32)), .unset, .unset, .unset, .unset, .unset, .unset, .unset] rfl 39 rfl ?_
    refine own_newO X0 hx hZ hown (own_w hw 0 rfl) (own_w hw 1 rfl) (own_w hw 2 rfl) e0 (hb hby at_39) (by decide) (by decide) 42 rfl (fun T287 h287 a287 g287 X287 e287 E287 A287 D287 => ?_)
    have ge288 : n0 ≤ a287 := by rw [g287]; exact Z0
    have Z289 : n0 ≤ h287.size := Nat.le_trans Z0 E287.1
    have O291 := O0.ext E287
    have F292 : Fld Z h287 a287 "com/example/causeway/causeway/server/HandoverWait" "leaseNanos" "J" (.long (0 : Int64)) := D287 (Or.inr (own_w hw 10 rfl)) (ty := .long) (by decide)
    have F293 : Fld Z h287 a287 "com/example/causeway/causeway/server/HandoverWait" "waitNanos" "J" (.long (0 : Int64)) := D287 (Or.inl (own_w hw 12 rfl)) (ty := .long) (by decide)
    have F294 : Fld Z h287 a287 "com/example/causeway/causeway/server/HandoverWait" "retryAfter" "J" (.long (0 : Int64)) := D287 (Or.inl (own_w hw 14 rfl)) (ty := .long) (by decide)
    have F295 : Fld Z h287 a287 "com/example/causeway/causeway/server/HandoverWait" "caughtUp" "Z" (.int (0 : Int32)) := D287 (Or.inl (own_w hw 21 rfl)) (ty := .boolean) (by decide)
    have F296 : Fld Z h287 a287 "com/example/causeway/causeway/server/HandoverWait" "caughtUpSince" "J" (.long (0 : Int64)) := D287 (Or.inl (own_w hw 23 rfl)) (ty := .long) (by decide)
    have F297 : Fld Z h287 a287 "com/example/causeway/causeway/server/HandoverWait" "led" "Z" (.int (0 : Int32)) := D287 (Or.inl (own_w hw 43 rfl)) (ty := .boolean) (by decide)
    have F298 : Fld Z h287 a287 "com/example/causeway/causeway/server/HandoverWait" "ledSince" "J" (.long (0 : Int64)) := D287 (Or.inl (own_w hw 45 rfl)) (ty := .long) (by decide)
    have F299 : Fld Z h287 a287 "com/example/causeway/causeway/server/HandoverWait" "ledUntil" "J" (.long (0 : Int64)) := D287 (Or.inl (own_w hw 47 rfl)) (ty := .long) (by decide)
    refine own_dup X287 hx (hb hby at_42) rfl 43 rfl ?_
    refine own_lloadN X287 hx (hb hby at_43) rfl 44 rfl ?_
    refine own_lloadN X287 hx (hb hby at_44) rfl 45 rfl ?_
    refine own_callI X287 hx hZ rfl hown (own_w hw 3 rfl) (own_w hw 4 rfl) (own_w hw 2 rfl) (own_w hw 5 rfl) (by decide) e287 (rm1 l Z a0 hw [] a287 le st h287 n0 Z289 ge288 ⟨A287, F292, F293, F294, F295, F296, F297, F298, F299⟩) (by rw [hml]; rfl) pd_0 (argsL := [(.long le), (.long st)]) rfl (rest := [(.ref a287)]) rfl (hb hby at_45) 1 (Nat.le_of_eq rfl) (by decide) (by decide) (by decide) (by decide) 48 rfl (fun T300 L300 v300 X300 hQ300 => ?_)
    obtain ⟨rfl, N300, K300, E300, F0_300, F1_300, F2_300, F3_300, F4_300, F5_300, F6_300, F7_300⟩ := hQ300
    have N301 := Fr.app N0 N300
    have O303 := O291.keep K300 (allS ge288 all0)
    have Z304 : n0 ≤ T300.heap.size := Nat.le_trans Z289 K300.1
    show own_Go p e below G (T300.setTop (mkF m 48 #[.val (.long le), .second, .val (.long st), .second, .val (.long t1), .second, .val (.long t2), .second, .val (.long q), .second, .val (.int fl), .val (.int (1 : Int32)), .val (.int (0 : Int32)), .val (.int (1 : Int32)), .unset, .unset, .unset, .unset, .unset, .unset, .unset] [(.ref a287)]))
    refine own_astore X300 hx (hb hby at_48) rfl #[.val (.long le), .second, .val (.long st), .second, .val (.long t1), .second, .val (.long t2), .second, .val (.long q), .second, .val (.int fl), .val (.int (1 : Int32)), .val (.int (0 : Int32)), .val (.int (1 : Int32)), .val (.ref a287), .unset, .unset, .unset, .unset, .unset, .unset] rfl 50 rfl ?_
    refine own_iload X300 hx (hb hby at_50) rfl 52 rfl ?_
    refine own_ifN X300 hx (hb hby at_52) ((if0 _ _).trans (feq (by decide)).1) 55 rfl ?_
    refine own_aload X300 hx (hb hby at_55) rfl rfl 57 rfl ?_
    refine own_iconst X300 hx (hb hby at_57) (1 : Int32) rfl 58 rfl ?_
    refine own_lload X300 hx (hb hby at_58) rfl 60 rfl ?_
    refine own_callV X300 hx hZ hown (own_w hw 37 rfl) (own_w hw 38 rfl) (own_w hw 40 rfl) (notFace_of_selects (args := #[]) (mvT hZ (own_w hw 40 rfl))) (own_w hw 39 rfl) (own_w hw 2 rfl) (own_w hw 41 rfl) (by decide) (rfl : T300.heap = T300.heap) E300 (rm6 l Z a0 hw [] a287 t1 le le st (0 : Int32) (0 : Int64) (0 : Int64) (0 : Int64) T300.heap n0 Z304 ge288 ⟨E300, F0_300, F1_300, F2_300, F3_300, F4_300, F5_300, F6_300, F7_300⟩) (by rw [hml]; rfl) pd_2 (argsL := [(.int (1 : Int32)), (.long t1)]) rfl (rest := []) rfl (hb hby at_60) 0 (Nat.le_of_eq rfl) (by decide) (by decide) (by decide) (by decide) 63 rfl (fun T305 L305 v305 X305 hQ305 => ?_)
    have hQ305 : v305 = some (.int (0 : Int32)) ∧ Fr n0 L305 ∧ Keep T300.heap T305.heap [a287] ∧ own_HW Z T305.heap a287 le le st (0 : Int32) (0 : Int64) (1 : Int32) t1 t1 := hQ305
    obtain ⟨rfl, N305, K305, E305, F0_305, F1_305, F2_305, F3_305, F4_305, F5_305, F6_305, F7_305⟩ := hQ305
    have N306 := Fr.app N301 N305
    have O308 := O303.keep K305 (allS ge288 all0)
    have Z309 : n0 ≤ T305.heap.size := Nat.le_trans Z304 K305.1
    show own_Go p e below G (T305.setTop (mkF m 63 #[.val (.long le), .second, .val (.long st), .second, .val (.long t1), .second, .val (.long t2), .second, .val (.long q), .second, .val (.int fl), .val (.int (1 : Int32)), .val (.int (0 : Int32)), .val (.int (1 : Int32)), .val (.ref a287), .unset, .unset, .unset, .unset, .unset, .unset] [(.int (0 : Int32))]))
    refine own_pop X305 hx (hb hby at_63) rfl 64 rfl ?_
    refine own_iload X305 hx (hb hby at_64) rfl 66 rfl ?_
    refine own_iconst X305 hx (hb hby at_66) (1 : Int32) rfl 67 rfl ?_
    refine own_icmpN X305 hx (hb hby at_67) (flt (by decide)).1 70 rfl ?_
    refine own_aload X305 hx (hb hby at_70) rfl rfl 72 rfl ?_
    refine own_lload X305 hx (hb hby at_72) rfl 74 rfl ?_
    refine own_callV X305 hx hZ hown (own_w hw 15 rfl) (own_w hw 16 rfl) (own_w hw 18 rfl) (notFace_of_selects (args := #[]) (mvT hZ (own_w hw 18 rfl))) (own_w hw 17 rfl) (own_w hw 2 rfl) (own_w hw 19 rfl) (by decide) (rfl : T305.heap = T305.heap) E305 (rm2 l Z a0 hw [] a287 t1 le le st (0 : Int32) (0 : Int64) (1 : Int32) t1 t1 T305.heap n0 Z309 ge288 ⟨E305, F0_305, F1_305, F2_305, F3_305, F4_305, F5_305, F6_305, F7_305⟩) (by rw [hml]; rfl) pd_3 (argsL := [(.long t1)]) rfl (rest := []) rfl (hb hby at_74) 0 (Nat.le_of_eq rfl) (by decide) (by decide) (by decide) (by decide) 77 rfl (fun T310 L310 v310 X310 hQ310 => ?_)
    have hQ310 : v310 = none ∧ Fr n0 L310 ∧ Keep T305.heap T310.heap [a287] ∧ own_HW Z T310.heap a287 le le st (1 : Int32) t1 (1 : Int32) t1 t1 := hQ310
    obtain ⟨rfl, N310, K310, E310, F0_310, F1_310, F2_310, F3_310, F4_310, F5_310, F6_310, F7_310⟩ := hQ310
    have N311 := Fr.app N306 N310
    have O313 := O308.keep K310 (allS ge288 all0)
    have Z314 : n0 ≤ T310.heap.size := Nat.le_trans Z309 K310.1
    show own_Go p e below G (T310.setTop (mkF m 77 #[.val (.long le), .second, .val (.long st), .second, .val (.long t1), .second, .val (.long t2), .second, .val (.long q), .second, .val (.int fl), .val (.int (1 : Int32)), .val (.int (0 : Int32)), .val (.int (1 : Int32)), .val (.ref a287), .unset, .unset, .unset, .unset, .unset, .unset] []))
    refine own_iload X310 hx (hb hby at_77) rfl 79 rfl ?_
    refine own_iconst X310 hx (hb hby at_79) (2 : Int32) rfl 80 rfl ?_
    refine own_icmpY X310 hx (hb hby at_80) (feq (by decide)).2 90 ⟨by decide, by decide⟩ ?_
    refine own_iload X310 hx (hb hby at_90) rfl 92 rfl ?_
    refine own_iconst X310 hx (hb hby at_92) (3 : Int32) rfl 93 rfl ?_
    refine own_icmpY X310 hx (hb hby at_93) (tlt (by decide)).1 101 ⟨by decide, by decide⟩ ?_
    refine own_iload X310 hx (hb hby at_101) rfl 103 rfl ?_
    refine own_iconst X310 hx (hb hby at_103) (4 : Int32) rfl 104 rfl ?_
    refine own_icmpY X310 hx (hb hby at_104) (feq (by decide)).2 114 ⟨by decide, by decide⟩ ?_
    refine own_iload X310 hx (hb hby at_114) rfl 116 rfl ?_
    refine own_ifY X310 hx (hb hby at_116) ((if0 _ _).trans (teq (by decide)).1) 125 ⟨by decide, by decide⟩ ?_
    refine own_iload X310 hx (hb hby at_125) rfl 127 rfl ?_
    refine own_iconst X310 hx (hb hby at_127) (1 : Int32) rfl 128 rfl ?_
    refine own_icmpY X310 hx (hb hby at_128) (teq (by decide)).1 143 ⟨by decide, by decide⟩ ?_
    refine own_iconst X310 hx (hb hby at_143) (1 : Int32) rfl 144 rfl ?_
    refine own_goto X310 hx (hb hby at_144) 148 ⟨by decide, by decide⟩ ?_
    refine own_istore X310 hx (hb hby at_148) #[.val (.long le), .second, .val (.long st), .second, .val (.long t1), .second, .val (.long t2), .second, .val (.long q), .second, .val (.int fl), .val (.int (1 : Int32)), .val (.int (0 : Int32)), .val (.int (1 : Int32)), .val (.ref a287), .val (.int (1 : Int32)), .unset, .unset, .unset, .unset, .unset] rfl 150 rfl ?_
    refine own_iload X310 hx (hb hby at_150) rfl 152 rfl ?_
    refine own_iconst X310 hx (hb hby at_152) (4 : Int32) rfl 153 rfl ?_
    refine own_icmpY X310 hx (hb hby at_153) (feq (by decide)).2 161 ⟨by decide, by decide⟩ ?_
    refine own_lload X310 hx (hb hby at_161) rfl 163 rfl ?_
    refine own_lstore X310 hx (hb hby at_163) #[.val (.long le), .second, .val (.long st), .second, .val (.long t1), .second, .val (.long t2), .second, .val (.long q), .second, .val (.int fl), .val (.int (1 : Int32)), .val (.int (0 : Int32)), .val (.int (1 : Int32)), .val (.ref a287), .val (.int (1 : Int32)), .val (.long t1), .second, .unset, .unset, .unset] rfl 165 rfl ?_
    refine own_iload X310 hx (hb hby at_165) rfl 167 rfl ?_
    refine own_ifY X310 hx (hb hby at_167) ((if0 _ _).trans (teq (by decide)).1) 178 ⟨by decide, by decide⟩ ?_
    refine own_lloadN X310 hx (hb hby at_178) rfl 179 rfl ?_
    refine own_lstore X310 hx (hb hby at_179) #[.val (.long le), .second, .val (.long st), .second, .val (.long t1), .second, .val (.long t2), .second, .val (.long q), .second, .val (.int fl), .val (.int (1 : Int32)), .val (.int (0 : Int32)), .val (.int (1 : Int32)), .val (.ref a287), .val (.int (1 : Int32)), .val (.long t1), .second, .val (.long st), .second, .unset] rfl 181 rfl ?_
    suffices kj316 : ∀ u315 : Int32, u315 = own_due (1 : Int32) t1 le st q → own_Go p e below G (T310.setTop (mkF m 211 #[.val (.long le), .second, .val (.long st), .second, .val (.long t1), .second, .val (.long t2), .second, .val (.long q), .second, .val (.int fl), .val (.int (1 : Int32)), .val (.int (0 : Int32)), .val (.int (1 : Int32)), .val (.ref a287), .val (.int (1 : Int32)), .val (.long t1), .second, .val (.long st), .second, .unset] [(.int u315)])) by
      refine own_iload X310 hx (hb hby at_181) rfl 183 rfl ?_
      refine own_ifN X310 hx (hb hby at_183) ((if0 _ _).trans (feq (by decide)).1) 186 rfl ?_
      refine own_lload X310 hx (hb hby at_186) rfl 188 rfl ?_
      refine own_lload X310 hx (hb hby at_188) rfl 190 rfl ?_
      refine own_lsub X310 hx (hb hby at_190) 191 rfl ?_
      refine own_lloadN X310 hx (hb hby at_191) rfl 192 rfl ?_
      refine own_lcmp X310 hx (hb hby at_192) 193 rfl ?_
      by_cases c317 : (q - t1) < le
      ·
        refine own_ifY X310 hx (hb hby at_193) (own_ltL c317).1 210 ⟨by decide, by decide⟩ ?_
        refine own_iconst X310 hx (hb hby at_210) (0 : Int32) rfl 211 rfl ?_
        exact kj316 (0 : Int32) (by simp [own_due, c257, c317])
      ·
        refine own_ifN X310 hx (hb hby at_193) (own_nltL c317).1 196 rfl ?_
        refine own_lload X310 hx (hb hby at_196) rfl 198 rfl ?_
        refine own_lload X310 hx (hb hby at_198) rfl 200 rfl ?_
        refine own_lsub X310 hx (hb hby at_200) 201 rfl ?_
        refine own_lconst X310 hx (hb hby at_201) (0 : Int64) rfl 202 rfl ?_
        refine own_lcmp X310 hx (hb hby at_202) 203 rfl ?_
        by_cases c318 : (q - st) < (0 : Int64)
        ·
          refine own_ifY X310 hx (hb hby at_203) (own_ltL c318).1 210 ⟨by decide, by decide⟩ ?_
          refine own_iconst X310 hx (hb hby at_210) (0 : Int32) rfl 211 rfl ?_
          exact kj316 (0 : Int32) (by simp [own_due, c257, c317, c318])
        ·
          refine own_ifN X310 hx (hb hby at_203) (own_nltL c318).1 206 rfl ?_
          refine own_iconst X310 hx (hb hby at_206) (1 : Int32) rfl 207 rfl ?_
          refine own_goto X310 hx (hb hby at_207) 211 ⟨by decide, by decide⟩ ?_
          exact kj316 (1 : Int32) (by simp [own_due, c257, c317, c318])
    intro u315 hu315
    refine own_istore X310 hx (hb hby at_211) #[.val (.long le), .second, .val (.long st), .second, .val (.long t1), .second, .val (.long t2), .second, .val (.long q), .second, .val (.int fl), .val (.int (1 : Int32)), .val (.int (0 : Int32)), .val (.int (1 : Int32)), .val (.ref a287), .val (.int (1 : Int32)), .val (.long t1), .second, .val (.long st), .second, .val (.int u315)] rfl 213 rfl ?_
    refine own_aload X310 hx (hb hby at_213) rfl rfl 215 rfl ?_
    refine own_lload X310 hx (hb hby at_215) rfl 217 rfl ?_
    refine own_callV X310 hx hZ hown (own_w hw 24 rfl) (own_w hw 25 rfl) (own_w hw 27 rfl) (notFace_of_selects (args := #[]) (mvT hZ (own_w hw 27 rfl))) (own_w hw 26 rfl) (own_w hw 2 rfl) (own_w hw 28 rfl) (by decide) (rfl : T310.heap = T310.heap) E310 (rm4 l Z a0 hw [] a287 q le le st (1 : Int32) t1 (1 : Int32) t1 t1 T310.heap n0 Z314 ge288 ⟨E310, F0_310, F1_310, F2_310, F3_310, F4_310, F5_310, F6_310, F7_310⟩) (by rw [hml]; rfl) pd_1 (argsL := [(.long q)]) rfl (rest := []) rfl (hb hby at_217) 0 (Nat.le_of_eq rfl) (by decide) (by decide) (by decide) (by decide) 220 rfl (fun T319 L319 v319 X319 hQ319 => ?_)
    obtain ⟨rfl, N319, e319⟩ := hQ319
    have N320 := Fr.app N311 N319
    show own_Go p e below G (T319.setTop (mkF m 220 #[.val (.long le), .second, .val (.long st), .second, .val (.long t1), .second, .val (.long t2), .second, .val (.long q), .second, .val (.int fl), .val (.int (1 : Int32)), .val (.int (0 : Int32)), .val (.int (1 : Int32)), .val (.ref a287), .val (.int (1 : Int32)), .val (.long t1), .second, .val (.long st), .second, .val (.int u315)] [(.int (own_due (1 : Int32) t1 le st q))]))
    refine own_iload X319 hx (hb hby at_220) rfl 222 rfl ?_
    refine own_icmpN X319 hx (hb hby at_222) (teq (by subst hu315; simp [own_due])).2 225 rfl ?_
    refine own_iconst X319 hx (hb hby at_225) (1 : Int32) rfl 226 rfl ?_
    refine own_goto X319 hx (hb hby at_226) 230 ⟨by decide, by decide⟩ ?_
    refine own_nreturn X319 hx Bd.notSynchronized hG Bd.returns (by simp) (hb hby at_230) (by decide) (by decide) ?_
    rw [e319]
    exact ⟨rfl, N320⟩
theorem ef_rm0_1_1 (m : MethodId) (x0 : Int64) (x1 : Int64) (x2 : Int64) (x3 : Int64) (x4 : Int64) (x5 : Int32) : entryFrame m #[(.long x0), (.long x1), (.long x2), (.long x3), (.long x4), (.int x5)] maxLocals = mkF m 0 #[.val (.long x0), .second, .val (.long x1), .second, .val (.long x2), .second, .val (.long x3), .second, .val (.long x4), .second, .val (.int x5), .unset, .unset, .unset, .unset, .unset, .unset, .unset, .unset, .unset, .unset] [] := by first | (simp [entryFrame, mkF, argsToLocals, Value.category, maxLocals]; done) | rfl
set_option maxRecDepth 65536 in
set_option maxHeartbeats 40000000 in
theorem rm0_1_1 (l : Launch) (Z : State) (a0 : Array Value) (hw : ∀ d ∈ tables_1, d.before a0 Z = true) (ws : List Jvm.Cond) (le st t1 t2 q : Int64) (fl : Int32) (h0 : Heap) (n0 : Nat) (Z0 : n0 ≤ h0.size) (O0 : Old Z n0 h0) (S0 : Sta Z Z.heap "com/example/causeway/causeway/server/HandoverWait" "RETRY_NANOS" "J" (.long 5000000000)) (hmd : (fl &&& (7 : Int32)) % (5 : Int32) = 1) (hgv : ¬ (fl &&& (8 : Int32)) = (0 : Int32)) :
    MetFree l x (head1 (Jvm.Cond.code x code maxLocals ret :: ws) room_1) (fun aR U => aR = #[(.long le), (.long st), (.long t1), (.long t2), (.long q), (.int fl)] ∧ Z.Warmed39 U.vm ∧ U.heap = h0) (fun _ _ _ _ _ => True) (fun _ U o U' => ∃ v L, o = .returned v ∧ Q0 h0 n0 v U'.heap L ∧ FrameEnd U o U' L room_1.cells room_1.slots) := by
  refine MetFree.of_bodySF (plainFor_of_name pn_0) hisR ?_
  intro p e s m args below meth c s₁ Bd hml0 hP hK
  obtain ⟨rfl, hZ, hhE⟩ := hP
  have hx := Bd.exec
  have hby := Bd.bytes
  have hml : c.maxLocals = 21 := hml0
  have hown : s.vm.findClass "com/example/causeway/causeway/server/HandoverWaitDuePinLaw" = some m.cls := findClass_of_methodNamed Bd.named
  have hnm := (name_of_methodNamed Bd.named Bd.method).1
  have X0 : Stand p l e room_1 s m #[(.long le), (.long st), (.long t1), (.long t2), (.long q), (.int fl)] below meth c s₁ [] 0 0 := Stand.of_body Bd
  have e0 : s₁.heap = h0 := by rw [← hhE, Bd.state]; rfl
  have N0 := Fr.nil n0
  show own_Go p e below (own_Post s (Q0 h0 n0) room_1.cells room_1.slots) (s₁.setTop (entryFrame m #[(.long le), (.long st), (.long t1), (.long t2), (.long q), (.int fl)] maxLocals))
  rw [ef_rm0_1_1]
  generalize hG : own_Post s (Q0 h0 n0) room_1.cells room_1.slots = G
  refine own_iload X0 hx (hb hby at_0) rfl 2 rfl ?_
  refine own_bipush X0 hx (hb hby at_2) (7 : Int32) rfl 4 rfl ?_
  refine own_iand X0 hx (hb hby at_4) 5 rfl ?_
  refine own_iconst X0 hx (hb hby at_5) (5 : Int32) rfl 6 rfl ?_
  refine own_irem X0 hx (hb hby at_6) (by decide) 7 rfl ?_
  generalize hy321 : ((fl &&& (7 : Int32)) % (5 : Int32)) = y321
  refine own_istore X0 hx (hb hby at_7) #[.val (.long le), .second, .val (.long st), .second, .val (.long t1), .second, .val (.long t2), .second, .val (.long q), .second, .val (.int fl), .val (.int y321), .unset, .unset, .unset, .unset, .unset, .unset, .unset, .unset, .unset] rfl 9 rfl ?_
  obtain rfl : y321 = 1 := hy321.symm.trans hmd
  refine own_iload X0 hx (hb hby at_9) rfl 11 rfl ?_
  refine own_bipush X0 hx (hb hby at_11) (8 : Int32) rfl 13 rfl ?_
  refine own_iand X0 hx (hb hby at_13) 14 rfl ?_
  refine own_ifN X0 hx (hb hby at_14) ((if0 _ _).trans (feq hgv).1) 17 rfl ?_
  refine own_iconst X0 hx (hb hby at_17) (1 : Int32) rfl 18 rfl ?_
  refine own_goto X0 hx (hb hby at_18) 22 ⟨by decide, by decide⟩ ?_
  refine own_istore X0 hx (hb hby at_22) #[.val (.long le), .second, .val (.long st), .second, .val (.long t1), .second, .val (.long t2), .second, .val (.long q), .second, .val (.int fl), .val (.int (1 : Int32)), .val (.int (1 : Int32)), .unset, .unset, .unset, .unset, .unset, .unset, .unset, .unset] rfl 24 rfl ?_
  refine own_iload X0 hx (hb hby at_24) rfl 26 rfl ?_
  refine own_bipush X0 hx (hb hby at_26) (16 : Int32) rfl 28 rfl ?_
  refine own_iand X0 hx (hb hby at_28) 29 rfl ?_
  by_cases c322 : (fl &&& (16 : Int32)) = (0 : Int32)
  ·
    refine own_ifY X0 hx (hb hby at_29) ((if0 _ _).trans (teq c322).1) 36 ⟨by decide, by decide⟩ ?_
    refine own_iconst X0 hx (hb hby at_36) (0 : Int32) rfl 37 rfl ?_
    refine own_istore X0 hx (hb hby at_37) #[.val (.long le), .second, .val (.long st), .second, .val (.long t1), .second, .val (.long t2), .second, .val (.long q), .second, .val (.int fl), .val (.int (1 : Int32)), .val (.int (1 : Int32)), .val (.int (0 : Int32)), .unset, .unset, .unset, .unset, .unset, .unset, .unset] rfl 39 rfl ?_
    refine own_newO X0 hx hZ hown (own_w hw 0 rfl) (own_w hw 1 rfl) (own_w hw 2 rfl) e0 (hb hby at_39) (by decide) (by decide) 42 rfl (fun T323 h323 a323 g323 X323 e323 E323 A323 D323 => ?_)
    have ge324 : n0 ≤ a323 := by rw [g323]; exact Z0
    have Z325 : n0 ≤ h323.size := Nat.le_trans Z0 E323.1
    have O327 := O0.ext E323
    have F328 : Fld Z h323 a323 "com/example/causeway/causeway/server/HandoverWait" "leaseNanos" "J" (.long (0 : Int64)) := D323 (Or.inr (own_w hw 10 rfl)) (ty := .long) (by decide)
    have F329 : Fld Z h323 a323 "com/example/causeway/causeway/server/HandoverWait" "waitNanos" "J" (.long (0 : Int64)) := D323 (Or.inl (own_w hw 12 rfl)) (ty := .long) (by decide)
    have F330 : Fld Z h323 a323 "com/example/causeway/causeway/server/HandoverWait" "retryAfter" "J" (.long (0 : Int64)) := D323 (Or.inl (own_w hw 14 rfl)) (ty := .long) (by decide)
    have F331 : Fld Z h323 a323 "com/example/causeway/causeway/server/HandoverWait" "caughtUp" "Z" (.int (0 : Int32)) := D323 (Or.inl (own_w hw 21 rfl)) (ty := .boolean) (by decide)
    have F332 : Fld Z h323 a323 "com/example/causeway/causeway/server/HandoverWait" "caughtUpSince" "J" (.long (0 : Int64)) := D323 (Or.inl (own_w hw 23 rfl)) (ty := .long) (by decide)
    have F333 : Fld Z h323 a323 "com/example/causeway/causeway/server/HandoverWait" "led" "Z" (.int (0 : Int32)) := D323 (Or.inl (own_w hw 43 rfl)) (ty := .boolean) (by decide)
    have F334 : Fld Z h323 a323 "com/example/causeway/causeway/server/HandoverWait" "ledSince" "J" (.long (0 : Int64)) := D323 (Or.inl (own_w hw 45 rfl)) (ty := .long) (by decide)
    have F335 : Fld Z h323 a323 "com/example/causeway/causeway/server/HandoverWait" "ledUntil" "J" (.long (0 : Int64)) := D323 (Or.inl (own_w hw 47 rfl)) (ty := .long) (by decide)
    refine own_dup X323 hx (hb hby at_42) rfl 43 rfl ?_
    refine own_lloadN X323 hx (hb hby at_43) rfl 44 rfl ?_
    refine own_lloadN X323 hx (hb hby at_44) rfl 45 rfl ?_
    refine own_callI X323 hx hZ rfl hown (own_w hw 3 rfl) (own_w hw 4 rfl) (own_w hw 2 rfl) (own_w hw 5 rfl) (by decide) e323 (rm1 l Z a0 hw [] a323 le st h323 n0 Z325 ge324 ⟨A323, F328, F329, F330, F331, F332, F333, F334, F335⟩) (by rw [hml]; rfl) pd_0 (argsL := [(.long le), (.long st)]) rfl (rest := [(.ref a323)]) rfl (hb hby at_45) 1 (Nat.le_of_eq rfl) (by decide) (by decide) (by decide) (by decide) 48 rfl (fun T336 L336 v336 X336 hQ336 => ?_)
    obtain ⟨rfl, N336, K336, E336, F0_336, F1_336, F2_336, F3_336, F4_336, F5_336, F6_336, F7_336⟩ := hQ336
    have N337 := Fr.app N0 N336
    have O339 := O327.keep K336 (allS ge324 all0)
    have Z340 : n0 ≤ T336.heap.size := Nat.le_trans Z325 K336.1
    show own_Go p e below G (T336.setTop (mkF m 48 #[.val (.long le), .second, .val (.long st), .second, .val (.long t1), .second, .val (.long t2), .second, .val (.long q), .second, .val (.int fl), .val (.int (1 : Int32)), .val (.int (1 : Int32)), .val (.int (0 : Int32)), .unset, .unset, .unset, .unset, .unset, .unset, .unset] [(.ref a323)]))
    refine own_astore X336 hx (hb hby at_48) rfl #[.val (.long le), .second, .val (.long st), .second, .val (.long t1), .second, .val (.long t2), .second, .val (.long q), .second, .val (.int fl), .val (.int (1 : Int32)), .val (.int (1 : Int32)), .val (.int (0 : Int32)), .val (.ref a323), .unset, .unset, .unset, .unset, .unset, .unset] rfl 50 rfl ?_
    refine own_iload X336 hx (hb hby at_50) rfl 52 rfl ?_
    refine own_ifY X336 hx (hb hby at_52) ((if0 _ _).trans (teq (by decide)).1) 64 ⟨by decide, by decide⟩ ?_
    refine own_iload X336 hx (hb hby at_64) rfl 66 rfl ?_
    refine own_iconst X336 hx (hb hby at_66) (1 : Int32) rfl 67 rfl ?_
    refine own_icmpN X336 hx (hb hby at_67) (flt (by decide)).1 70 rfl ?_
    refine own_aload X336 hx (hb hby at_70) rfl rfl 72 rfl ?_
    refine own_lload X336 hx (hb hby at_72) rfl 74 rfl ?_
    refine own_callV X336 hx hZ hown (own_w hw 15 rfl) (own_w hw 16 rfl) (own_w hw 18 rfl) (notFace_of_selects (args := #[]) (mvT hZ (own_w hw 18 rfl))) (own_w hw 17 rfl) (own_w hw 2 rfl) (own_w hw 19 rfl) (by decide) (rfl : T336.heap = T336.heap) E336 (rm2 l Z a0 hw [] a323 t1 le le st (0 : Int32) (0 : Int64) (0 : Int32) (0 : Int64) (0 : Int64) T336.heap n0 Z340 ge324 ⟨E336, F0_336, F1_336, F2_336, F3_336, F4_336, F5_336, F6_336, F7_336⟩) (by rw [hml]; rfl) pd_3 (argsL := [(.long t1)]) rfl (rest := []) rfl (hb hby at_74) 0 (Nat.le_of_eq rfl) (by decide) (by decide) (by decide) (by decide) 77 rfl (fun T341 L341 v341 X341 hQ341 => ?_)
    have hQ341 : v341 = none ∧ Fr n0 L341 ∧ Keep T336.heap T341.heap [a323] ∧ own_HW Z T341.heap a323 le le st (1 : Int32) t1 (0 : Int32) (0 : Int64) (0 : Int64) := hQ341
    obtain ⟨rfl, N341, K341, E341, F0_341, F1_341, F2_341, F3_341, F4_341, F5_341, F6_341, F7_341⟩ := hQ341
    have N342 := Fr.app N337 N341
    have O344 := O339.keep K341 (allS ge324 all0)
    have Z345 : n0 ≤ T341.heap.size := Nat.le_trans Z340 K341.1
    show own_Go p e below G (T341.setTop (mkF m 77 #[.val (.long le), .second, .val (.long st), .second, .val (.long t1), .second, .val (.long t2), .second, .val (.long q), .second, .val (.int fl), .val (.int (1 : Int32)), .val (.int (1 : Int32)), .val (.int (0 : Int32)), .val (.ref a323), .unset, .unset, .unset, .unset, .unset, .unset] []))
    refine own_iload X341 hx (hb hby at_77) rfl 79 rfl ?_
    refine own_iconst X341 hx (hb hby at_79) (2 : Int32) rfl 80 rfl ?_
    refine own_icmpY X341 hx (hb hby at_80) (feq (by decide)).2 90 ⟨by decide, by decide⟩ ?_
    refine own_iload X341 hx (hb hby at_90) rfl 92 rfl ?_
    refine own_iconst X341 hx (hb hby at_92) (3 : Int32) rfl 93 rfl ?_
    refine own_icmpY X341 hx (hb hby at_93) (tlt (by decide)).1 101 ⟨by decide, by decide⟩ ?_
    refine own_iload X341 hx (hb hby at_101) rfl 103 rfl ?_
    refine own_iconst X341 hx (hb hby at_103) (4 : Int32) rfl 104 rfl ?_
    refine own_icmpY X341 hx (hb hby at_104) (feq (by decide)).2 114 ⟨by decide, by decide⟩ ?_
    refine own_iload X341 hx (hb hby at_114) rfl 116 rfl ?_
    refine own_ifN X341 hx (hb hby at_116) ((if0 _ _).trans (feq (by decide)).1) 119 rfl ?_
    refine own_aload X341 hx (hb hby at_119) rfl rfl 121 rfl ?_
    refine own_lloadN X341 hx (hb hby at_121) rfl 122 rfl ?_
    refine own_callV X341 hx hZ hown (own_w hw 29 rfl) (own_w hw 30 rfl) (own_w hw 32 rfl) (notFace_of_selects (args := #[]) (mvT hZ (own_w hw 32 rfl))) (own_w hw 31 rfl) (own_w hw 2 rfl) (own_w hw 33 rfl) (by decide) (rfl : T341.heap = T341.heap) E341 (rm5 l Z a0 hw [] a323 st le le st (1 : Int32) t1 (0 : Int32) (0 : Int64) (0 : Int64) T341.heap n0 Z345 ge324 ⟨E341, F0_341, F1_341, F2_341, F3_341, F4_341, F5_341, F6_341, F7_341⟩ O344 S0) (by rw [hml]; rfl) pd_3 (argsL := [(.long st)]) rfl (rest := []) rfl (hb hby at_122) 0 (Nat.le_of_eq rfl) (by decide) (by decide) (by decide) (by decide) 125 rfl (fun T346 L346 v346 X346 hQ346 => ?_)
    have hQ346 : v346 = none ∧ Fr n0 L346 ∧ Keep T341.heap T346.heap [a323] ∧ own_HW Z T346.heap a323 le le (st + 5000000000) (1 : Int32) t1 (0 : Int32) (0 : Int64) (0 : Int64) := hQ346
    obtain ⟨rfl, N346, K346, E346, F0_346, F1_346, F2_346, F3_346, F4_346, F5_346, F6_346, F7_346⟩ := hQ346
    have N347 := Fr.app N342 N346
    have O349 := O344.keep K346 (allS ge324 all0)
    have Z350 : n0 ≤ T346.heap.size := Nat.le_trans Z345 K346.1
    show own_Go p e below G (T346.setTop (mkF m 125 #[.val (.long le), .second, .val (.long st), .second, .val (.long t1), .second, .val (.long t2), .second, .val (.long q), .second, .val (.int fl), .val (.int (1 : Int32)), .val (.int (1 : Int32)), .val (.int (0 : Int32)), .val (.ref a323), .unset, .unset, .unset, .unset, .unset, .unset] []))
    refine own_iload X346 hx (hb hby at_125) rfl 127 rfl ?_
    refine own_iconst X346 hx (hb hby at_127) (1 : Int32) rfl 128 rfl ?_
    refine own_icmpY X346 hx (hb hby at_128) (teq (by decide)).1 143 ⟨by decide, by decide⟩ ?_
    refine own_iconst X346 hx (hb hby at_143) (1 : Int32) rfl 144 rfl ?_
    refine own_goto X346 hx (hb hby at_144) 148 ⟨by decide, by decide⟩ ?_
    refine own_istore X346 hx (hb hby at_148) #[.val (.long le), .second, .val (.long st), .second, .val (.long t1), .second, .val (.long t2), .second, .val (.long q), .second, .val (.int fl), .val (.int (1 : Int32)), .val (.int (1 : Int32)), .val (.int (0 : Int32)), .val (.ref a323), .val (.int (1 : Int32)), .unset, .unset, .unset, .unset, .unset] rfl 150 rfl ?_
    refine own_iload X346 hx (hb hby at_150) rfl 152 rfl ?_
    refine own_iconst X346 hx (hb hby at_152) (4 : Int32) rfl 153 rfl ?_
    refine own_icmpY X346 hx (hb hby at_153) (feq (by decide)).2 161 ⟨by decide, by decide⟩ ?_
    refine own_lload X346 hx (hb hby at_161) rfl 163 rfl ?_
    refine own_lstore X346 hx (hb hby at_163) #[.val (.long le), .second, .val (.long st), .second, .val (.long t1), .second, .val (.long t2), .second, .val (.long q), .second, .val (.int fl), .val (.int (1 : Int32)), .val (.int (1 : Int32)), .val (.int (0 : Int32)), .val (.ref a323), .val (.int (1 : Int32)), .val (.long t1), .second, .unset, .unset, .unset] rfl 165 rfl ?_
    refine own_iload X346 hx (hb hby at_165) rfl 167 rfl ?_
    refine own_ifN X346 hx (hb hby at_167) ((if0 _ _).trans (feq (by decide)).1) 170 rfl ?_
    refine own_lloadN X346 hx (hb hby at_170) rfl 171 rfl ?_
    refine own_ldc2Long X346 hx hown (mvT hZ (own_w hw 36 rfl)) (hb hby at_171) 174 rfl ?_
    refine own_ladd X346 hx (hb hby at_174) 175 rfl ?_
    refine own_goto X346 hx (hb hby at_175) 179 ⟨by decide, by decide⟩ ?_
    refine own_lstore X346 hx (hb hby at_179) #[.val (.long le), .second, .val (.long st), .second, .val (.long t1), .second, .val (.long t2), .second, .val (.long q), .second, .val (.int fl), .val (.int (1 : Int32)), .val (.int (1 : Int32)), .val (.int (0 : Int32)), .val (.ref a323), .val (.int (1 : Int32)), .val (.long t1), .second, .val (.long (st + (5000000000 : Int64))), .second, .unset] rfl 181 rfl ?_
    suffices kj352 : ∀ u351 : Int32, u351 = own_due (1 : Int32) t1 le (st + (5000000000 : Int64)) q → own_Go p e below G (T346.setTop (mkF m 211 #[.val (.long le), .second, .val (.long st), .second, .val (.long t1), .second, .val (.long t2), .second, .val (.long q), .second, .val (.int fl), .val (.int (1 : Int32)), .val (.int (1 : Int32)), .val (.int (0 : Int32)), .val (.ref a323), .val (.int (1 : Int32)), .val (.long t1), .second, .val (.long (st + (5000000000 : Int64))), .second, .unset] [(.int u351)])) by
      refine own_iload X346 hx (hb hby at_181) rfl 183 rfl ?_
      refine own_ifN X346 hx (hb hby at_183) ((if0 _ _).trans (feq (by decide)).1) 186 rfl ?_
      refine own_lload X346 hx (hb hby at_186) rfl 188 rfl ?_
      refine own_lload X346 hx (hb hby at_188) rfl 190 rfl ?_
      refine own_lsub X346 hx (hb hby at_190) 191 rfl ?_
      refine own_lloadN X346 hx (hb hby at_191) rfl 192 rfl ?_
      refine own_lcmp X346 hx (hb hby at_192) 193 rfl ?_
      by_cases c353 : (q - t1) < le
      ·
        refine own_ifY X346 hx (hb hby at_193) (own_ltL c353).1 210 ⟨by decide, by decide⟩ ?_
        refine own_iconst X346 hx (hb hby at_210) (0 : Int32) rfl 211 rfl ?_
        exact kj352 (0 : Int32) (by simp [own_due, c322, c353])
      ·
        refine own_ifN X346 hx (hb hby at_193) (own_nltL c353).1 196 rfl ?_
        refine own_lload X346 hx (hb hby at_196) rfl 198 rfl ?_
        refine own_lload X346 hx (hb hby at_198) rfl 200 rfl ?_
        refine own_lsub X346 hx (hb hby at_200) 201 rfl ?_
        refine own_lconst X346 hx (hb hby at_201) (0 : Int64) rfl 202 rfl ?_
        refine own_lcmp X346 hx (hb hby at_202) 203 rfl ?_
        by_cases c354 : (q - (st + (5000000000 : Int64))) < (0 : Int64)
        ·
          refine own_ifY X346 hx (hb hby at_203) (own_ltL c354).1 210 ⟨by decide, by decide⟩ ?_
          refine own_iconst X346 hx (hb hby at_210) (0 : Int32) rfl 211 rfl ?_
          exact kj352 (0 : Int32) (by simp [own_due, c322, c353, c354])
        ·
          refine own_ifN X346 hx (hb hby at_203) (own_nltL c354).1 206 rfl ?_
          refine own_iconst X346 hx (hb hby at_206) (1 : Int32) rfl 207 rfl ?_
          refine own_goto X346 hx (hb hby at_207) 211 ⟨by decide, by decide⟩ ?_
          exact kj352 (1 : Int32) (by simp [own_due, c322, c353, c354])
    intro u351 hu351
    refine own_istore X346 hx (hb hby at_211) #[.val (.long le), .second, .val (.long st), .second, .val (.long t1), .second, .val (.long t2), .second, .val (.long q), .second, .val (.int fl), .val (.int (1 : Int32)), .val (.int (1 : Int32)), .val (.int (0 : Int32)), .val (.ref a323), .val (.int (1 : Int32)), .val (.long t1), .second, .val (.long (st + (5000000000 : Int64))), .second, .val (.int u351)] rfl 213 rfl ?_
    refine own_aload X346 hx (hb hby at_213) rfl rfl 215 rfl ?_
    refine own_lload X346 hx (hb hby at_215) rfl 217 rfl ?_
    refine own_callV X346 hx hZ hown (own_w hw 24 rfl) (own_w hw 25 rfl) (own_w hw 27 rfl) (notFace_of_selects (args := #[]) (mvT hZ (own_w hw 27 rfl))) (own_w hw 26 rfl) (own_w hw 2 rfl) (own_w hw 28 rfl) (by decide) (rfl : T346.heap = T346.heap) E346 (rm4 l Z a0 hw [] a323 q le le (st + 5000000000) (1 : Int32) t1 (0 : Int32) (0 : Int64) (0 : Int64) T346.heap n0 Z350 ge324 ⟨E346, F0_346, F1_346, F2_346, F3_346, F4_346, F5_346, F6_346, F7_346⟩) (by rw [hml]; rfl) pd_1 (argsL := [(.long q)]) rfl (rest := []) rfl (hb hby at_217) 0 (Nat.le_of_eq rfl) (by decide) (by decide) (by decide) (by decide) 220 rfl (fun T355 L355 v355 X355 hQ355 => ?_)
    obtain ⟨rfl, N355, e355⟩ := hQ355
    have N356 := Fr.app N347 N355
    show own_Go p e below G (T355.setTop (mkF m 220 #[.val (.long le), .second, .val (.long st), .second, .val (.long t1), .second, .val (.long t2), .second, .val (.long q), .second, .val (.int fl), .val (.int (1 : Int32)), .val (.int (1 : Int32)), .val (.int (0 : Int32)), .val (.ref a323), .val (.int (1 : Int32)), .val (.long t1), .second, .val (.long (st + (5000000000 : Int64))), .second, .val (.int u351)] [(.int (own_due (1 : Int32) t1 le (st + 5000000000) q))]))
    refine own_iload X355 hx (hb hby at_220) rfl 222 rfl ?_
    refine own_icmpN X355 hx (hb hby at_222) (teq (by subst hu351; simp [own_due])).2 225 rfl ?_
    refine own_iconst X355 hx (hb hby at_225) (1 : Int32) rfl 226 rfl ?_
    refine own_goto X355 hx (hb hby at_226) 230 ⟨by decide, by decide⟩ ?_
    refine own_nreturn X355 hx Bd.notSynchronized hG Bd.returns (by simp) (hb hby at_230) (by decide) (by decide) ?_
    rw [e355]
    exact ⟨rfl, N356⟩
  ·
    refine own_ifN X0 hx (hb hby at_29) ((if0 _ _).trans (feq c322).1) 32 rfl ?_
    refine own_iconst X0 hx (hb hby at_32) (1 : Int32) rfl 33 rfl ?_
    refine own_goto X0 hx (hb hby at_33) 37 ⟨by decide, by decide⟩ ?_
    refine own_istore X0 hx (hb hby at_37) #[.val (.long le), .second, .val (.long st), .second, .val (.long t1), .second, .val (.long t2), .second, .val (.long q), .second, .val (.int fl), .val (.int (1 : Int32)), .val (.int (1 : Int32)), .val (.int (1 : Int32)), .unset, .unset, .unset, .unset, .unset, .unset, .unset] rfl 39 rfl ?_
    refine own_newO X0 hx hZ hown (own_w hw 0 rfl) (own_w hw 1 rfl) (own_w hw 2 rfl) e0 (hb hby at_39) (by decide) (by decide) 42 rfl (fun T357 h357 a357 g357 X357 e357 E357 A357 D357 => ?_)
    have ge358 : n0 ≤ a357 := by rw [g357]; exact Z0
    have Z359 : n0 ≤ h357.size := Nat.le_trans Z0 E357.1
    have O361 := O0.ext E357
    have F362 : Fld Z h357 a357 "com/example/causeway/causeway/server/HandoverWait" "leaseNanos" "J" (.long (0 : Int64)) := D357 (Or.inr (own_w hw 10 rfl)) (ty := .long) (by decide)
    have F363 : Fld Z h357 a357 "com/example/causeway/causeway/server/HandoverWait" "waitNanos" "J" (.long (0 : Int64)) := D357 (Or.inl (own_w hw 12 rfl)) (ty := .long) (by decide)
    have F364 : Fld Z h357 a357 "com/example/causeway/causeway/server/HandoverWait" "retryAfter" "J" (.long (0 : Int64)) := D357 (Or.inl (own_w hw 14 rfl)) (ty := .long) (by decide)
    have F365 : Fld Z h357 a357 "com/example/causeway/causeway/server/HandoverWait" "caughtUp" "Z" (.int (0 : Int32)) := D357 (Or.inl (own_w hw 21 rfl)) (ty := .boolean) (by decide)
    have F366 : Fld Z h357 a357 "com/example/causeway/causeway/server/HandoverWait" "caughtUpSince" "J" (.long (0 : Int64)) := D357 (Or.inl (own_w hw 23 rfl)) (ty := .long) (by decide)
    have F367 : Fld Z h357 a357 "com/example/causeway/causeway/server/HandoverWait" "led" "Z" (.int (0 : Int32)) := D357 (Or.inl (own_w hw 43 rfl)) (ty := .boolean) (by decide)
    have F368 : Fld Z h357 a357 "com/example/causeway/causeway/server/HandoverWait" "ledSince" "J" (.long (0 : Int64)) := D357 (Or.inl (own_w hw 45 rfl)) (ty := .long) (by decide)
    have F369 : Fld Z h357 a357 "com/example/causeway/causeway/server/HandoverWait" "ledUntil" "J" (.long (0 : Int64)) := D357 (Or.inl (own_w hw 47 rfl)) (ty := .long) (by decide)
    refine own_dup X357 hx (hb hby at_42) rfl 43 rfl ?_
    refine own_lloadN X357 hx (hb hby at_43) rfl 44 rfl ?_
    refine own_lloadN X357 hx (hb hby at_44) rfl 45 rfl ?_
    refine own_callI X357 hx hZ rfl hown (own_w hw 3 rfl) (own_w hw 4 rfl) (own_w hw 2 rfl) (own_w hw 5 rfl) (by decide) e357 (rm1 l Z a0 hw [] a357 le st h357 n0 Z359 ge358 ⟨A357, F362, F363, F364, F365, F366, F367, F368, F369⟩) (by rw [hml]; rfl) pd_0 (argsL := [(.long le), (.long st)]) rfl (rest := [(.ref a357)]) rfl (hb hby at_45) 1 (Nat.le_of_eq rfl) (by decide) (by decide) (by decide) (by decide) 48 rfl (fun T370 L370 v370 X370 hQ370 => ?_)
    obtain ⟨rfl, N370, K370, E370, F0_370, F1_370, F2_370, F3_370, F4_370, F5_370, F6_370, F7_370⟩ := hQ370
    have N371 := Fr.app N0 N370
    have O373 := O361.keep K370 (allS ge358 all0)
    have Z374 : n0 ≤ T370.heap.size := Nat.le_trans Z359 K370.1
    show own_Go p e below G (T370.setTop (mkF m 48 #[.val (.long le), .second, .val (.long st), .second, .val (.long t1), .second, .val (.long t2), .second, .val (.long q), .second, .val (.int fl), .val (.int (1 : Int32)), .val (.int (1 : Int32)), .val (.int (1 : Int32)), .unset, .unset, .unset, .unset, .unset, .unset, .unset] [(.ref a357)]))
    refine own_astore X370 hx (hb hby at_48) rfl #[.val (.long le), .second, .val (.long st), .second, .val (.long t1), .second, .val (.long t2), .second, .val (.long q), .second, .val (.int fl), .val (.int (1 : Int32)), .val (.int (1 : Int32)), .val (.int (1 : Int32)), .val (.ref a357), .unset, .unset, .unset, .unset, .unset, .unset] rfl 50 rfl ?_
    refine own_iload X370 hx (hb hby at_50) rfl 52 rfl ?_
    refine own_ifN X370 hx (hb hby at_52) ((if0 _ _).trans (feq (by decide)).1) 55 rfl ?_
    refine own_aload X370 hx (hb hby at_55) rfl rfl 57 rfl ?_
    refine own_iconst X370 hx (hb hby at_57) (1 : Int32) rfl 58 rfl ?_
    refine own_lload X370 hx (hb hby at_58) rfl 60 rfl ?_
    refine own_callV X370 hx hZ hown (own_w hw 37 rfl) (own_w hw 38 rfl) (own_w hw 40 rfl) (notFace_of_selects (args := #[]) (mvT hZ (own_w hw 40 rfl))) (own_w hw 39 rfl) (own_w hw 2 rfl) (own_w hw 41 rfl) (by decide) (rfl : T370.heap = T370.heap) E370 (rm6 l Z a0 hw [] a357 t1 le le st (0 : Int32) (0 : Int64) (0 : Int64) (0 : Int64) T370.heap n0 Z374 ge358 ⟨E370, F0_370, F1_370, F2_370, F3_370, F4_370, F5_370, F6_370, F7_370⟩) (by rw [hml]; rfl) pd_2 (argsL := [(.int (1 : Int32)), (.long t1)]) rfl (rest := []) rfl (hb hby at_60) 0 (Nat.le_of_eq rfl) (by decide) (by decide) (by decide) (by decide) 63 rfl (fun T375 L375 v375 X375 hQ375 => ?_)
    have hQ375 : v375 = some (.int (0 : Int32)) ∧ Fr n0 L375 ∧ Keep T370.heap T375.heap [a357] ∧ own_HW Z T375.heap a357 le le st (0 : Int32) (0 : Int64) (1 : Int32) t1 t1 := hQ375
    obtain ⟨rfl, N375, K375, E375, F0_375, F1_375, F2_375, F3_375, F4_375, F5_375, F6_375, F7_375⟩ := hQ375
    have N376 := Fr.app N371 N375
    have O378 := O373.keep K375 (allS ge358 all0)
    have Z379 : n0 ≤ T375.heap.size := Nat.le_trans Z374 K375.1
    show own_Go p e below G (T375.setTop (mkF m 63 #[.val (.long le), .second, .val (.long st), .second, .val (.long t1), .second, .val (.long t2), .second, .val (.long q), .second, .val (.int fl), .val (.int (1 : Int32)), .val (.int (1 : Int32)), .val (.int (1 : Int32)), .val (.ref a357), .unset, .unset, .unset, .unset, .unset, .unset] [(.int (0 : Int32))]))
    refine own_pop X375 hx (hb hby at_63) rfl 64 rfl ?_
    refine own_iload X375 hx (hb hby at_64) rfl 66 rfl ?_
    refine own_iconst X375 hx (hb hby at_66) (1 : Int32) rfl 67 rfl ?_
    refine own_icmpN X375 hx (hb hby at_67) (flt (by decide)).1 70 rfl ?_
    refine own_aload X375 hx (hb hby at_70) rfl rfl 72 rfl ?_
    refine own_lload X375 hx (hb hby at_72) rfl 74 rfl ?_
    refine own_callV X375 hx hZ hown (own_w hw 15 rfl) (own_w hw 16 rfl) (own_w hw 18 rfl) (notFace_of_selects (args := #[]) (mvT hZ (own_w hw 18 rfl))) (own_w hw 17 rfl) (own_w hw 2 rfl) (own_w hw 19 rfl) (by decide) (rfl : T375.heap = T375.heap) E375 (rm2 l Z a0 hw [] a357 t1 le le st (0 : Int32) (0 : Int64) (1 : Int32) t1 t1 T375.heap n0 Z379 ge358 ⟨E375, F0_375, F1_375, F2_375, F3_375, F4_375, F5_375, F6_375, F7_375⟩) (by rw [hml]; rfl) pd_3 (argsL := [(.long t1)]) rfl (rest := []) rfl (hb hby at_74) 0 (Nat.le_of_eq rfl) (by decide) (by decide) (by decide) (by decide) 77 rfl (fun T380 L380 v380 X380 hQ380 => ?_)
    have hQ380 : v380 = none ∧ Fr n0 L380 ∧ Keep T375.heap T380.heap [a357] ∧ own_HW Z T380.heap a357 le le st (1 : Int32) t1 (1 : Int32) t1 t1 := hQ380
    obtain ⟨rfl, N380, K380, E380, F0_380, F1_380, F2_380, F3_380, F4_380, F5_380, F6_380, F7_380⟩ := hQ380
    have N381 := Fr.app N376 N380
    have O383 := O378.keep K380 (allS ge358 all0)
    have Z384 : n0 ≤ T380.heap.size := Nat.le_trans Z379 K380.1
    show own_Go p e below G (T380.setTop (mkF m 77 #[.val (.long le), .second, .val (.long st), .second, .val (.long t1), .second, .val (.long t2), .second, .val (.long q), .second, .val (.int fl), .val (.int (1 : Int32)), .val (.int (1 : Int32)), .val (.int (1 : Int32)), .val (.ref a357), .unset, .unset, .unset, .unset, .unset, .unset] []))
    refine own_iload X380 hx (hb hby at_77) rfl 79 rfl ?_
    refine own_iconst X380 hx (hb hby at_79) (2 : Int32) rfl 80 rfl ?_
    refine own_icmpY X380 hx (hb hby at_80) (feq (by decide)).2 90 ⟨by decide, by decide⟩ ?_
    refine own_iload X380 hx (hb hby at_90) rfl 92 rfl ?_
    refine own_iconst X380 hx (hb hby at_92) (3 : Int32) rfl 93 rfl ?_
    refine own_icmpY X380 hx (hb hby at_93) (tlt (by decide)).1 101 ⟨by decide, by decide⟩ ?_
    refine own_iload X380 hx (hb hby at_101) rfl 103 rfl ?_
    refine own_iconst X380 hx (hb hby at_103) (4 : Int32) rfl 104 rfl ?_
    refine own_icmpY X380 hx (hb hby at_104) (feq (by decide)).2 114 ⟨by decide, by decide⟩ ?_
    refine own_iload X380 hx (hb hby at_114) rfl 116 rfl ?_
    refine own_ifN X380 hx (hb hby at_116) ((if0 _ _).trans (feq (by decide)).1) 119 rfl ?_
    refine own_aload X380 hx (hb hby at_119) rfl rfl 121 rfl ?_
    refine own_lloadN X380 hx (hb hby at_121) rfl 122 rfl ?_
    refine own_callV X380 hx hZ hown (own_w hw 29 rfl) (own_w hw 30 rfl) (own_w hw 32 rfl) (notFace_of_selects (args := #[]) (mvT hZ (own_w hw 32 rfl))) (own_w hw 31 rfl) (own_w hw 2 rfl) (own_w hw 33 rfl) (by decide) (rfl : T380.heap = T380.heap) E380 (rm5 l Z a0 hw [] a357 st le le st (1 : Int32) t1 (1 : Int32) t1 t1 T380.heap n0 Z384 ge358 ⟨E380, F0_380, F1_380, F2_380, F3_380, F4_380, F5_380, F6_380, F7_380⟩ O383 S0) (by rw [hml]; rfl) pd_3 (argsL := [(.long st)]) rfl (rest := []) rfl (hb hby at_122) 0 (Nat.le_of_eq rfl) (by decide) (by decide) (by decide) (by decide) 125 rfl (fun T385 L385 v385 X385 hQ385 => ?_)
    have hQ385 : v385 = none ∧ Fr n0 L385 ∧ Keep T380.heap T385.heap [a357] ∧ own_HW Z T385.heap a357 le le (st + 5000000000) (1 : Int32) t1 (1 : Int32) t1 t1 := hQ385
    obtain ⟨rfl, N385, K385, E385, F0_385, F1_385, F2_385, F3_385, F4_385, F5_385, F6_385, F7_385⟩ := hQ385
    have N386 := Fr.app N381 N385
    have O388 := O383.keep K385 (allS ge358 all0)
    have Z389 : n0 ≤ T385.heap.size := Nat.le_trans Z384 K385.1
    show own_Go p e below G (T385.setTop (mkF m 125 #[.val (.long le), .second, .val (.long st), .second, .val (.long t1), .second, .val (.long t2), .second, .val (.long q), .second, .val (.int fl), .val (.int (1 : Int32)), .val (.int (1 : Int32)), .val (.int (1 : Int32)), .val (.ref a357), .unset, .unset, .unset, .unset, .unset, .unset] []))
    refine own_iload X385 hx (hb hby at_125) rfl 127 rfl ?_
    refine own_iconst X385 hx (hb hby at_127) (1 : Int32) rfl 128 rfl ?_
    refine own_icmpY X385 hx (hb hby at_128) (teq (by decide)).1 143 ⟨by decide, by decide⟩ ?_
    refine own_iconst X385 hx (hb hby at_143) (1 : Int32) rfl 144 rfl ?_
    refine own_goto X385 hx (hb hby at_144) 148 ⟨by decide, by decide⟩ ?_
    refine own_istore X385 hx (hb hby at_148) #[.val (.long le), .second, .val (.long st), .second, .val (.long t1), .second, .val (.long t2), .second, .val (.long q), .second, .val (.int fl), .val (.int (1 : Int32)), .val (.int (1 : Int32)), .val (.int (1 : Int32)), .val (.ref a357), .val (.int (1 : Int32)), .unset, .unset, .unset, .unset, .unset] rfl 150 rfl ?_
    refine own_iload X385 hx (hb hby at_150) rfl 152 rfl ?_
    refine own_iconst X385 hx (hb hby at_152) (4 : Int32) rfl 153 rfl ?_
    refine own_icmpY X385 hx (hb hby at_153) (feq (by decide)).2 161 ⟨by decide, by decide⟩ ?_
    refine own_lload X385 hx (hb hby at_161) rfl 163 rfl ?_
    refine own_lstore X385 hx (hb hby at_163) #[.val (.long le), .second, .val (.long st), .second, .val (.long t1), .second, .val (.long t2), .second, .val (.long q), .second, .val (.int fl), .val (.int (1 : Int32)), .val (.int (1 : Int32)), .val (.int (1 : Int32)), .val (.ref a357), .val (.int (1 : Int32)), .val (.long t1), .second, .unset, .unset, .unset] rfl 165 rfl ?_
    refine own_iload X385 hx (hb hby at_165) rfl 167 rfl ?_
    refine own_ifN X385 hx (hb hby at_167) ((if0 _ _).trans (feq (by decide)).1) 170 rfl ?_
    refine own_lloadN X385 hx (hb hby at_170) rfl 171 rfl ?_
    refine own_ldc2Long X385 hx hown (mvT hZ (own_w hw 36 rfl)) (hb hby at_171) 174 rfl ?_
    refine own_ladd X385 hx (hb hby at_174) 175 rfl ?_
    refine own_goto X385 hx (hb hby at_175) 179 ⟨by decide, by decide⟩ ?_
    refine own_lstore X385 hx (hb hby at_179) #[.val (.long le), .second, .val (.long st), .second, .val (.long t1), .second, .val (.long t2), .second, .val (.long q), .second, .val (.int fl), .val (.int (1 : Int32)), .val (.int (1 : Int32)), .val (.int (1 : Int32)), .val (.ref a357), .val (.int (1 : Int32)), .val (.long t1), .second, .val (.long (st + (5000000000 : Int64))), .second, .unset] rfl 181 rfl ?_
    suffices kj391 : ∀ u390 : Int32, u390 = own_due (1 : Int32) t1 le (st + (5000000000 : Int64)) q → own_Go p e below G (T385.setTop (mkF m 211 #[.val (.long le), .second, .val (.long st), .second, .val (.long t1), .second, .val (.long t2), .second, .val (.long q), .second, .val (.int fl), .val (.int (1 : Int32)), .val (.int (1 : Int32)), .val (.int (1 : Int32)), .val (.ref a357), .val (.int (1 : Int32)), .val (.long t1), .second, .val (.long (st + (5000000000 : Int64))), .second, .unset] [(.int u390)])) by
      refine own_iload X385 hx (hb hby at_181) rfl 183 rfl ?_
      refine own_ifN X385 hx (hb hby at_183) ((if0 _ _).trans (feq (by decide)).1) 186 rfl ?_
      refine own_lload X385 hx (hb hby at_186) rfl 188 rfl ?_
      refine own_lload X385 hx (hb hby at_188) rfl 190 rfl ?_
      refine own_lsub X385 hx (hb hby at_190) 191 rfl ?_
      refine own_lloadN X385 hx (hb hby at_191) rfl 192 rfl ?_
      refine own_lcmp X385 hx (hb hby at_192) 193 rfl ?_
      by_cases c392 : (q - t1) < le
      ·
        refine own_ifY X385 hx (hb hby at_193) (own_ltL c392).1 210 ⟨by decide, by decide⟩ ?_
        refine own_iconst X385 hx (hb hby at_210) (0 : Int32) rfl 211 rfl ?_
        exact kj391 (0 : Int32) (by simp [own_due, c322, c392])
      ·
        refine own_ifN X385 hx (hb hby at_193) (own_nltL c392).1 196 rfl ?_
        refine own_lload X385 hx (hb hby at_196) rfl 198 rfl ?_
        refine own_lload X385 hx (hb hby at_198) rfl 200 rfl ?_
        refine own_lsub X385 hx (hb hby at_200) 201 rfl ?_
        refine own_lconst X385 hx (hb hby at_201) (0 : Int64) rfl 202 rfl ?_
        refine own_lcmp X385 hx (hb hby at_202) 203 rfl ?_
        by_cases c393 : (q - (st + (5000000000 : Int64))) < (0 : Int64)
        ·
          refine own_ifY X385 hx (hb hby at_203) (own_ltL c393).1 210 ⟨by decide, by decide⟩ ?_
          refine own_iconst X385 hx (hb hby at_210) (0 : Int32) rfl 211 rfl ?_
          exact kj391 (0 : Int32) (by simp [own_due, c322, c392, c393])
        ·
          refine own_ifN X385 hx (hb hby at_203) (own_nltL c393).1 206 rfl ?_
          refine own_iconst X385 hx (hb hby at_206) (1 : Int32) rfl 207 rfl ?_
          refine own_goto X385 hx (hb hby at_207) 211 ⟨by decide, by decide⟩ ?_
          exact kj391 (1 : Int32) (by simp [own_due, c322, c392, c393])
    intro u390 hu390
    refine own_istore X385 hx (hb hby at_211) #[.val (.long le), .second, .val (.long st), .second, .val (.long t1), .second, .val (.long t2), .second, .val (.long q), .second, .val (.int fl), .val (.int (1 : Int32)), .val (.int (1 : Int32)), .val (.int (1 : Int32)), .val (.ref a357), .val (.int (1 : Int32)), .val (.long t1), .second, .val (.long (st + (5000000000 : Int64))), .second, .val (.int u390)] rfl 213 rfl ?_
    refine own_aload X385 hx (hb hby at_213) rfl rfl 215 rfl ?_
    refine own_lload X385 hx (hb hby at_215) rfl 217 rfl ?_
    refine own_callV X385 hx hZ hown (own_w hw 24 rfl) (own_w hw 25 rfl) (own_w hw 27 rfl) (notFace_of_selects (args := #[]) (mvT hZ (own_w hw 27 rfl))) (own_w hw 26 rfl) (own_w hw 2 rfl) (own_w hw 28 rfl) (by decide) (rfl : T385.heap = T385.heap) E385 (rm4 l Z a0 hw [] a357 q le le (st + 5000000000) (1 : Int32) t1 (1 : Int32) t1 t1 T385.heap n0 Z389 ge358 ⟨E385, F0_385, F1_385, F2_385, F3_385, F4_385, F5_385, F6_385, F7_385⟩) (by rw [hml]; rfl) pd_1 (argsL := [(.long q)]) rfl (rest := []) rfl (hb hby at_217) 0 (Nat.le_of_eq rfl) (by decide) (by decide) (by decide) (by decide) 220 rfl (fun T394 L394 v394 X394 hQ394 => ?_)
    obtain ⟨rfl, N394, e394⟩ := hQ394
    have N395 := Fr.app N386 N394
    show own_Go p e below G (T394.setTop (mkF m 220 #[.val (.long le), .second, .val (.long st), .second, .val (.long t1), .second, .val (.long t2), .second, .val (.long q), .second, .val (.int fl), .val (.int (1 : Int32)), .val (.int (1 : Int32)), .val (.int (1 : Int32)), .val (.ref a357), .val (.int (1 : Int32)), .val (.long t1), .second, .val (.long (st + (5000000000 : Int64))), .second, .val (.int u390)] [(.int (own_due (1 : Int32) t1 le (st + 5000000000) q))]))
    refine own_iload X394 hx (hb hby at_220) rfl 222 rfl ?_
    refine own_icmpN X394 hx (hb hby at_222) (teq (by subst hu390; simp [own_due])).2 225 rfl ?_
    refine own_iconst X394 hx (hb hby at_225) (1 : Int32) rfl 226 rfl ?_
    refine own_goto X394 hx (hb hby at_226) 230 ⟨by decide, by decide⟩ ?_
    refine own_nreturn X394 hx Bd.notSynchronized hG Bd.returns (by simp) (hb hby at_230) (by decide) (by decide) ?_
    rw [e394]
    exact ⟨rfl, N395⟩
theorem ef_rm0_2_0 (m : MethodId) (x0 : Int64) (x1 : Int64) (x2 : Int64) (x3 : Int64) (x4 : Int64) (x5 : Int32) : entryFrame m #[(.long x0), (.long x1), (.long x2), (.long x3), (.long x4), (.int x5)] maxLocals = mkF m 0 #[.val (.long x0), .second, .val (.long x1), .second, .val (.long x2), .second, .val (.long x3), .second, .val (.long x4), .second, .val (.int x5), .unset, .unset, .unset, .unset, .unset, .unset, .unset, .unset, .unset, .unset] [] := by first | (simp [entryFrame, mkF, argsToLocals, Value.category, maxLocals]; done) | rfl
set_option maxRecDepth 65536 in
set_option maxHeartbeats 40000000 in
theorem rm0_2_0 (l : Launch) (Z : State) (a0 : Array Value) (hw : ∀ d ∈ tables_1, d.before a0 Z = true) (ws : List Jvm.Cond) (le st t1 t2 q : Int64) (fl : Int32) (h0 : Heap) (n0 : Nat) (Z0 : n0 ≤ h0.size) (O0 : Old Z n0 h0) (S0 : Sta Z Z.heap "com/example/causeway/causeway/server/HandoverWait" "RETRY_NANOS" "J" (.long 5000000000)) (hmd : (fl &&& (7 : Int32)) % (5 : Int32) = 2) (hgv : (fl &&& (8 : Int32)) = (0 : Int32)) :
    MetFree l x (head1 (Jvm.Cond.code x code maxLocals ret :: ws) room_1) (fun aR U => aR = #[(.long le), (.long st), (.long t1), (.long t2), (.long q), (.int fl)] ∧ Z.Warmed39 U.vm ∧ U.heap = h0) (fun _ _ _ _ _ => True) (fun _ U o U' => ∃ v L, o = .returned v ∧ Q0 h0 n0 v U'.heap L ∧ FrameEnd U o U' L room_1.cells room_1.slots) := by
  refine MetFree.of_bodySF (plainFor_of_name pn_0) hisR ?_
  intro p e s m args below meth c s₁ Bd hml0 hP hK
  obtain ⟨rfl, hZ, hhE⟩ := hP
  have hx := Bd.exec
  have hby := Bd.bytes
  have hml : c.maxLocals = 21 := hml0
  have hown : s.vm.findClass "com/example/causeway/causeway/server/HandoverWaitDuePinLaw" = some m.cls := findClass_of_methodNamed Bd.named
  have hnm := (name_of_methodNamed Bd.named Bd.method).1
  have X0 : Stand p l e room_1 s m #[(.long le), (.long st), (.long t1), (.long t2), (.long q), (.int fl)] below meth c s₁ [] 0 0 := Stand.of_body Bd
  have e0 : s₁.heap = h0 := by rw [← hhE, Bd.state]; rfl
  have N0 := Fr.nil n0
  show own_Go p e below (own_Post s (Q0 h0 n0) room_1.cells room_1.slots) (s₁.setTop (entryFrame m #[(.long le), (.long st), (.long t1), (.long t2), (.long q), (.int fl)] maxLocals))
  rw [ef_rm0_2_0]
  generalize hG : own_Post s (Q0 h0 n0) room_1.cells room_1.slots = G
  refine own_iload X0 hx (hb hby at_0) rfl 2 rfl ?_
  refine own_bipush X0 hx (hb hby at_2) (7 : Int32) rfl 4 rfl ?_
  refine own_iand X0 hx (hb hby at_4) 5 rfl ?_
  refine own_iconst X0 hx (hb hby at_5) (5 : Int32) rfl 6 rfl ?_
  refine own_irem X0 hx (hb hby at_6) (by decide) 7 rfl ?_
  generalize hy396 : ((fl &&& (7 : Int32)) % (5 : Int32)) = y396
  refine own_istore X0 hx (hb hby at_7) #[.val (.long le), .second, .val (.long st), .second, .val (.long t1), .second, .val (.long t2), .second, .val (.long q), .second, .val (.int fl), .val (.int y396), .unset, .unset, .unset, .unset, .unset, .unset, .unset, .unset, .unset] rfl 9 rfl ?_
  obtain rfl : y396 = 2 := hy396.symm.trans hmd
  refine own_iload X0 hx (hb hby at_9) rfl 11 rfl ?_
  refine own_bipush X0 hx (hb hby at_11) (8 : Int32) rfl 13 rfl ?_
  refine own_iand X0 hx (hb hby at_13) 14 rfl ?_
  refine own_ifY X0 hx (hb hby at_14) ((if0 _ _).trans (teq hgv).1) 21 ⟨by decide, by decide⟩ ?_
  refine own_iconst X0 hx (hb hby at_21) (0 : Int32) rfl 22 rfl ?_
  refine own_istore X0 hx (hb hby at_22) #[.val (.long le), .second, .val (.long st), .second, .val (.long t1), .second, .val (.long t2), .second, .val (.long q), .second, .val (.int fl), .val (.int (2 : Int32)), .val (.int (0 : Int32)), .unset, .unset, .unset, .unset, .unset, .unset, .unset, .unset] rfl 24 rfl ?_
  refine own_iload X0 hx (hb hby at_24) rfl 26 rfl ?_
  refine own_bipush X0 hx (hb hby at_26) (16 : Int32) rfl 28 rfl ?_
  refine own_iand X0 hx (hb hby at_28) 29 rfl ?_
  by_cases c397 : (fl &&& (16 : Int32)) = (0 : Int32)
  ·
    refine own_ifY X0 hx (hb hby at_29) ((if0 _ _).trans (teq c397).1) 36 ⟨by decide, by decide⟩ ?_
    refine own_iconst X0 hx (hb hby at_36) (0 : Int32) rfl 37 rfl ?_
    refine own_istore X0 hx (hb hby at_37) #[.val (.long le), .second, .val (.long st), .second, .val (.long t1), .second, .val (.long t2), .second, .val (.long q), .second, .val (.int fl), .val (.int (2 : Int32)), .val (.int (0 : Int32)), .val (.int (0 : Int32)), .unset, .unset, .unset, .unset, .unset, .unset, .unset] rfl 39 rfl ?_
    refine own_newO X0 hx hZ hown (own_w hw 0 rfl) (own_w hw 1 rfl) (own_w hw 2 rfl) e0 (hb hby at_39) (by decide) (by decide) 42 rfl (fun T398 h398 a398 g398 X398 e398 E398 A398 D398 => ?_)
    have ge399 : n0 ≤ a398 := by rw [g398]; exact Z0
    have Z400 : n0 ≤ h398.size := Nat.le_trans Z0 E398.1
    have O402 := O0.ext E398
    have F403 : Fld Z h398 a398 "com/example/causeway/causeway/server/HandoverWait" "leaseNanos" "J" (.long (0 : Int64)) := D398 (Or.inr (own_w hw 10 rfl)) (ty := .long) (by decide)
    have F404 : Fld Z h398 a398 "com/example/causeway/causeway/server/HandoverWait" "waitNanos" "J" (.long (0 : Int64)) := D398 (Or.inl (own_w hw 12 rfl)) (ty := .long) (by decide)
    have F405 : Fld Z h398 a398 "com/example/causeway/causeway/server/HandoverWait" "retryAfter" "J" (.long (0 : Int64)) := D398 (Or.inl (own_w hw 14 rfl)) (ty := .long) (by decide)
    have F406 : Fld Z h398 a398 "com/example/causeway/causeway/server/HandoverWait" "caughtUp" "Z" (.int (0 : Int32)) := D398 (Or.inl (own_w hw 21 rfl)) (ty := .boolean) (by decide)
    have F407 : Fld Z h398 a398 "com/example/causeway/causeway/server/HandoverWait" "caughtUpSince" "J" (.long (0 : Int64)) := D398 (Or.inl (own_w hw 23 rfl)) (ty := .long) (by decide)
    have F408 : Fld Z h398 a398 "com/example/causeway/causeway/server/HandoverWait" "led" "Z" (.int (0 : Int32)) := D398 (Or.inl (own_w hw 43 rfl)) (ty := .boolean) (by decide)
    have F409 : Fld Z h398 a398 "com/example/causeway/causeway/server/HandoverWait" "ledSince" "J" (.long (0 : Int64)) := D398 (Or.inl (own_w hw 45 rfl)) (ty := .long) (by decide)
    have F410 : Fld Z h398 a398 "com/example/causeway/causeway/server/HandoverWait" "ledUntil" "J" (.long (0 : Int64)) := D398 (Or.inl (own_w hw 47 rfl)) (ty := .long) (by decide)
    refine own_dup X398 hx (hb hby at_42) rfl 43 rfl ?_
    refine own_lloadN X398 hx (hb hby at_43) rfl 44 rfl ?_
    refine own_lloadN X398 hx (hb hby at_44) rfl 45 rfl ?_
    refine own_callI X398 hx hZ rfl hown (own_w hw 3 rfl) (own_w hw 4 rfl) (own_w hw 2 rfl) (own_w hw 5 rfl) (by decide) e398 (rm1 l Z a0 hw [] a398 le st h398 n0 Z400 ge399 ⟨A398, F403, F404, F405, F406, F407, F408, F409, F410⟩) (by rw [hml]; rfl) pd_0 (argsL := [(.long le), (.long st)]) rfl (rest := [(.ref a398)]) rfl (hb hby at_45) 1 (Nat.le_of_eq rfl) (by decide) (by decide) (by decide) (by decide) 48 rfl (fun T411 L411 v411 X411 hQ411 => ?_)
    obtain ⟨rfl, N411, K411, E411, F0_411, F1_411, F2_411, F3_411, F4_411, F5_411, F6_411, F7_411⟩ := hQ411
    have N412 := Fr.app N0 N411
    have O414 := O402.keep K411 (allS ge399 all0)
    have Z415 : n0 ≤ T411.heap.size := Nat.le_trans Z400 K411.1
    show own_Go p e below G (T411.setTop (mkF m 48 #[.val (.long le), .second, .val (.long st), .second, .val (.long t1), .second, .val (.long t2), .second, .val (.long q), .second, .val (.int fl), .val (.int (2 : Int32)), .val (.int (0 : Int32)), .val (.int (0 : Int32)), .unset, .unset, .unset, .unset, .unset, .unset, .unset] [(.ref a398)]))
    refine own_astore X411 hx (hb hby at_48) rfl #[.val (.long le), .second, .val (.long st), .second, .val (.long t1), .second, .val (.long t2), .second, .val (.long q), .second, .val (.int fl), .val (.int (2 : Int32)), .val (.int (0 : Int32)), .val (.int (0 : Int32)), .val (.ref a398), .unset, .unset, .unset, .unset, .unset, .unset] rfl 50 rfl ?_
    refine own_iload X411 hx (hb hby at_50) rfl 52 rfl ?_
    refine own_ifY X411 hx (hb hby at_52) ((if0 _ _).trans (teq (by decide)).1) 64 ⟨by decide, by decide⟩ ?_
    refine own_iload X411 hx (hb hby at_64) rfl 66 rfl ?_
    refine own_iconst X411 hx (hb hby at_66) (1 : Int32) rfl 67 rfl ?_
    refine own_icmpN X411 hx (hb hby at_67) (flt (by decide)).1 70 rfl ?_
    refine own_aload X411 hx (hb hby at_70) rfl rfl 72 rfl ?_
    refine own_lload X411 hx (hb hby at_72) rfl 74 rfl ?_
    refine own_callV X411 hx hZ hown (own_w hw 15 rfl) (own_w hw 16 rfl) (own_w hw 18 rfl) (notFace_of_selects (args := #[]) (mvT hZ (own_w hw 18 rfl))) (own_w hw 17 rfl) (own_w hw 2 rfl) (own_w hw 19 rfl) (by decide) (rfl : T411.heap = T411.heap) E411 (rm2 l Z a0 hw [] a398 t1 le le st (0 : Int32) (0 : Int64) (0 : Int32) (0 : Int64) (0 : Int64) T411.heap n0 Z415 ge399 ⟨E411, F0_411, F1_411, F2_411, F3_411, F4_411, F5_411, F6_411, F7_411⟩) (by rw [hml]; rfl) pd_3 (argsL := [(.long t1)]) rfl (rest := []) rfl (hb hby at_74) 0 (Nat.le_of_eq rfl) (by decide) (by decide) (by decide) (by decide) 77 rfl (fun T416 L416 v416 X416 hQ416 => ?_)
    have hQ416 : v416 = none ∧ Fr n0 L416 ∧ Keep T411.heap T416.heap [a398] ∧ own_HW Z T416.heap a398 le le st (1 : Int32) t1 (0 : Int32) (0 : Int64) (0 : Int64) := hQ416
    obtain ⟨rfl, N416, K416, E416, F0_416, F1_416, F2_416, F3_416, F4_416, F5_416, F6_416, F7_416⟩ := hQ416
    have N417 := Fr.app N412 N416
    have O419 := O414.keep K416 (allS ge399 all0)
    have Z420 : n0 ≤ T416.heap.size := Nat.le_trans Z415 K416.1
    show own_Go p e below G (T416.setTop (mkF m 77 #[.val (.long le), .second, .val (.long st), .second, .val (.long t1), .second, .val (.long t2), .second, .val (.long q), .second, .val (.int fl), .val (.int (2 : Int32)), .val (.int (0 : Int32)), .val (.int (0 : Int32)), .val (.ref a398), .unset, .unset, .unset, .unset, .unset, .unset] []))
    refine own_iload X416 hx (hb hby at_77) rfl 79 rfl ?_
    refine own_iconst X416 hx (hb hby at_79) (2 : Int32) rfl 80 rfl ?_
    refine own_icmpN X416 hx (hb hby at_80) (teq (by decide)).2 83 rfl ?_
    refine own_aload X416 hx (hb hby at_83) rfl rfl 85 rfl ?_
    refine own_lload X416 hx (hb hby at_85) rfl 87 rfl ?_
    refine own_callV X416 hx hZ hown (own_w hw 15 rfl) (own_w hw 16 rfl) (own_w hw 18 rfl) (notFace_of_selects (args := #[]) (mvT hZ (own_w hw 18 rfl))) (own_w hw 17 rfl) (own_w hw 2 rfl) (own_w hw 19 rfl) (by decide) (rfl : T416.heap = T416.heap) E416 (rm2 l Z a0 hw [] a398 t2 le le st (1 : Int32) t1 (0 : Int32) (0 : Int64) (0 : Int64) T416.heap n0 Z420 ge399 ⟨E416, F0_416, F1_416, F2_416, F3_416, F4_416, F5_416, F6_416, F7_416⟩) (by rw [hml]; rfl) pd_3 (argsL := [(.long t2)]) rfl (rest := []) rfl (hb hby at_87) 0 (Nat.le_of_eq rfl) (by decide) (by decide) (by decide) (by decide) 90 rfl (fun T421 L421 v421 X421 hQ421 => ?_)
    have hQ421 : v421 = none ∧ Fr n0 L421 ∧ Keep T416.heap T421.heap [a398] ∧ own_HW Z T421.heap a398 le le st (1 : Int32) t1 (0 : Int32) (0 : Int64) (0 : Int64) := hQ421
    obtain ⟨rfl, N421, K421, E421, F0_421, F1_421, F2_421, F3_421, F4_421, F5_421, F6_421, F7_421⟩ := hQ421
    have N422 := Fr.app N417 N421
    have O424 := O419.keep K421 (allS ge399 all0)
    have Z425 : n0 ≤ T421.heap.size := Nat.le_trans Z420 K421.1
    show own_Go p e below G (T421.setTop (mkF m 90 #[.val (.long le), .second, .val (.long st), .second, .val (.long t1), .second, .val (.long t2), .second, .val (.long q), .second, .val (.int fl), .val (.int (2 : Int32)), .val (.int (0 : Int32)), .val (.int (0 : Int32)), .val (.ref a398), .unset, .unset, .unset, .unset, .unset, .unset] []))
    refine own_iload X421 hx (hb hby at_90) rfl 92 rfl ?_
    refine own_iconst X421 hx (hb hby at_92) (3 : Int32) rfl 93 rfl ?_
    refine own_icmpY X421 hx (hb hby at_93) (tlt (by decide)).1 101 ⟨by decide, by decide⟩ ?_
    refine own_iload X421 hx (hb hby at_101) rfl 103 rfl ?_
    refine own_iconst X421 hx (hb hby at_103) (4 : Int32) rfl 104 rfl ?_
    refine own_icmpY X421 hx (hb hby at_104) (feq (by decide)).2 114 ⟨by decide, by decide⟩ ?_
    refine own_iload X421 hx (hb hby at_114) rfl 116 rfl ?_
    refine own_ifY X421 hx (hb hby at_116) ((if0 _ _).trans (teq (by decide)).1) 125 ⟨by decide, by decide⟩ ?_
    refine own_iload X421 hx (hb hby at_125) rfl 127 rfl ?_
    refine own_iconst X421 hx (hb hby at_127) (1 : Int32) rfl 128 rfl ?_
    refine own_icmpN X421 hx (hb hby at_128) (feq (by decide)).1 131 rfl ?_
    refine own_iload X421 hx (hb hby at_131) rfl 133 rfl ?_
    refine own_iconst X421 hx (hb hby at_133) (2 : Int32) rfl 134 rfl ?_
    refine own_icmpY X421 hx (hb hby at_134) (teq (by decide)).1 143 ⟨by decide, by decide⟩ ?_
    refine own_iconst X421 hx (hb hby at_143) (1 : Int32) rfl 144 rfl ?_
    refine own_goto X421 hx (hb hby at_144) 148 ⟨by decide, by decide⟩ ?_
    refine own_istore X421 hx (hb hby at_148) #[.val (.long le), .second, .val (.long st), .second, .val (.long t1), .second, .val (.long t2), .second, .val (.long q), .second, .val (.int fl), .val (.int (2 : Int32)), .val (.int (0 : Int32)), .val (.int (0 : Int32)), .val (.ref a398), .val (.int (1 : Int32)), .unset, .unset, .unset, .unset, .unset] rfl 150 rfl ?_
    refine own_iload X421 hx (hb hby at_150) rfl 152 rfl ?_
    refine own_iconst X421 hx (hb hby at_152) (4 : Int32) rfl 153 rfl ?_
    refine own_icmpY X421 hx (hb hby at_153) (feq (by decide)).2 161 ⟨by decide, by decide⟩ ?_
    refine own_lload X421 hx (hb hby at_161) rfl 163 rfl ?_
    refine own_lstore X421 hx (hb hby at_163) #[.val (.long le), .second, .val (.long st), .second, .val (.long t1), .second, .val (.long t2), .second, .val (.long q), .second, .val (.int fl), .val (.int (2 : Int32)), .val (.int (0 : Int32)), .val (.int (0 : Int32)), .val (.ref a398), .val (.int (1 : Int32)), .val (.long t1), .second, .unset, .unset, .unset] rfl 165 rfl ?_
    refine own_iload X421 hx (hb hby at_165) rfl 167 rfl ?_
    refine own_ifY X421 hx (hb hby at_167) ((if0 _ _).trans (teq (by decide)).1) 178 ⟨by decide, by decide⟩ ?_
    refine own_lloadN X421 hx (hb hby at_178) rfl 179 rfl ?_
    refine own_lstore X421 hx (hb hby at_179) #[.val (.long le), .second, .val (.long st), .second, .val (.long t1), .second, .val (.long t2), .second, .val (.long q), .second, .val (.int fl), .val (.int (2 : Int32)), .val (.int (0 : Int32)), .val (.int (0 : Int32)), .val (.ref a398), .val (.int (1 : Int32)), .val (.long t1), .second, .val (.long st), .second, .unset] rfl 181 rfl ?_
    suffices kj427 : ∀ u426 : Int32, u426 = own_due (1 : Int32) t1 le st q → own_Go p e below G (T421.setTop (mkF m 211 #[.val (.long le), .second, .val (.long st), .second, .val (.long t1), .second, .val (.long t2), .second, .val (.long q), .second, .val (.int fl), .val (.int (2 : Int32)), .val (.int (0 : Int32)), .val (.int (0 : Int32)), .val (.ref a398), .val (.int (1 : Int32)), .val (.long t1), .second, .val (.long st), .second, .unset] [(.int u426)])) by
      refine own_iload X421 hx (hb hby at_181) rfl 183 rfl ?_
      refine own_ifN X421 hx (hb hby at_183) ((if0 _ _).trans (feq (by decide)).1) 186 rfl ?_
      refine own_lload X421 hx (hb hby at_186) rfl 188 rfl ?_
      refine own_lload X421 hx (hb hby at_188) rfl 190 rfl ?_
      refine own_lsub X421 hx (hb hby at_190) 191 rfl ?_
      refine own_lloadN X421 hx (hb hby at_191) rfl 192 rfl ?_
      refine own_lcmp X421 hx (hb hby at_192) 193 rfl ?_
      by_cases c428 : (q - t1) < le
      ·
        refine own_ifY X421 hx (hb hby at_193) (own_ltL c428).1 210 ⟨by decide, by decide⟩ ?_
        refine own_iconst X421 hx (hb hby at_210) (0 : Int32) rfl 211 rfl ?_
        exact kj427 (0 : Int32) (by simp [own_due, c397, c428])
      ·
        refine own_ifN X421 hx (hb hby at_193) (own_nltL c428).1 196 rfl ?_
        refine own_lload X421 hx (hb hby at_196) rfl 198 rfl ?_
        refine own_lload X421 hx (hb hby at_198) rfl 200 rfl ?_
        refine own_lsub X421 hx (hb hby at_200) 201 rfl ?_
        refine own_lconst X421 hx (hb hby at_201) (0 : Int64) rfl 202 rfl ?_
        refine own_lcmp X421 hx (hb hby at_202) 203 rfl ?_
        by_cases c429 : (q - st) < (0 : Int64)
        ·
          refine own_ifY X421 hx (hb hby at_203) (own_ltL c429).1 210 ⟨by decide, by decide⟩ ?_
          refine own_iconst X421 hx (hb hby at_210) (0 : Int32) rfl 211 rfl ?_
          exact kj427 (0 : Int32) (by simp [own_due, c397, c428, c429])
        ·
          refine own_ifN X421 hx (hb hby at_203) (own_nltL c429).1 206 rfl ?_
          refine own_iconst X421 hx (hb hby at_206) (1 : Int32) rfl 207 rfl ?_
          refine own_goto X421 hx (hb hby at_207) 211 ⟨by decide, by decide⟩ ?_
          exact kj427 (1 : Int32) (by simp [own_due, c397, c428, c429])
    intro u426 hu426
    refine own_istore X421 hx (hb hby at_211) #[.val (.long le), .second, .val (.long st), .second, .val (.long t1), .second, .val (.long t2), .second, .val (.long q), .second, .val (.int fl), .val (.int (2 : Int32)), .val (.int (0 : Int32)), .val (.int (0 : Int32)), .val (.ref a398), .val (.int (1 : Int32)), .val (.long t1), .second, .val (.long st), .second, .val (.int u426)] rfl 213 rfl ?_
    refine own_aload X421 hx (hb hby at_213) rfl rfl 215 rfl ?_
    refine own_lload X421 hx (hb hby at_215) rfl 217 rfl ?_
    refine own_callV X421 hx hZ hown (own_w hw 24 rfl) (own_w hw 25 rfl) (own_w hw 27 rfl) (notFace_of_selects (args := #[]) (mvT hZ (own_w hw 27 rfl))) (own_w hw 26 rfl) (own_w hw 2 rfl) (own_w hw 28 rfl) (by decide) (rfl : T421.heap = T421.heap) E421 (rm4 l Z a0 hw [] a398 q le le st (1 : Int32) t1 (0 : Int32) (0 : Int64) (0 : Int64) T421.heap n0 Z425 ge399 ⟨E421, F0_421, F1_421, F2_421, F3_421, F4_421, F5_421, F6_421, F7_421⟩) (by rw [hml]; rfl) pd_1 (argsL := [(.long q)]) rfl (rest := []) rfl (hb hby at_217) 0 (Nat.le_of_eq rfl) (by decide) (by decide) (by decide) (by decide) 220 rfl (fun T430 L430 v430 X430 hQ430 => ?_)
    obtain ⟨rfl, N430, e430⟩ := hQ430
    have N431 := Fr.app N422 N430
    show own_Go p e below G (T430.setTop (mkF m 220 #[.val (.long le), .second, .val (.long st), .second, .val (.long t1), .second, .val (.long t2), .second, .val (.long q), .second, .val (.int fl), .val (.int (2 : Int32)), .val (.int (0 : Int32)), .val (.int (0 : Int32)), .val (.ref a398), .val (.int (1 : Int32)), .val (.long t1), .second, .val (.long st), .second, .val (.int u426)] [(.int (own_due (1 : Int32) t1 le st q))]))
    refine own_iload X430 hx (hb hby at_220) rfl 222 rfl ?_
    refine own_icmpN X430 hx (hb hby at_222) (teq (by subst hu426; simp [own_due])).2 225 rfl ?_
    refine own_iconst X430 hx (hb hby at_225) (1 : Int32) rfl 226 rfl ?_
    refine own_goto X430 hx (hb hby at_226) 230 ⟨by decide, by decide⟩ ?_
    refine own_nreturn X430 hx Bd.notSynchronized hG Bd.returns (by simp) (hb hby at_230) (by decide) (by decide) ?_
    rw [e430]
    exact ⟨rfl, N431⟩
  ·
    refine own_ifN X0 hx (hb hby at_29) ((if0 _ _).trans (feq c397).1) 32 rfl ?_
    refine own_iconst X0 hx (hb hby at_32) (1 : Int32) rfl 33 rfl ?_
    refine own_goto X0 hx (hb hby at_33) 37 ⟨by decide, by decide⟩ ?_
    refine own_istore X0 hx (hb hby at_37) #[.val (.long le), .second, .val (.long st), .second, .val (.long t1), .second, .val (.long t2), .second, .val (.long q), .second, .val (.int fl), .val (.int (2 : Int32)), .val (.int (0 : Int32)), .val (.int (1 : Int32)), .unset, .unset, .unset, .unset, .unset, .unset, .unset] rfl 39 rfl ?_
    refine own_newO X0 hx hZ hown (own_w hw 0 rfl) (own_w hw 1 rfl) (own_w hw 2 rfl) e0 (hb hby at_39) (by decide) (by decide) 42 rfl (fun T432 h432 a432 g432 X432 e432 E432 A432 D432 => ?_)
    have ge433 : n0 ≤ a432 := by rw [g432]; exact Z0
    have Z434 : n0 ≤ h432.size := Nat.le_trans Z0 E432.1
    have O436 := O0.ext E432
    have F437 : Fld Z h432 a432 "com/example/causeway/causeway/server/HandoverWait" "leaseNanos" "J" (.long (0 : Int64)) := D432 (Or.inr (own_w hw 10 rfl)) (ty := .long) (by decide)
    have F438 : Fld Z h432 a432 "com/example/causeway/causeway/server/HandoverWait" "waitNanos" "J" (.long (0 : Int64)) := D432 (Or.inl (own_w hw 12 rfl)) (ty := .long) (by decide)
    have F439 : Fld Z h432 a432 "com/example/causeway/causeway/server/HandoverWait" "retryAfter" "J" (.long (0 : Int64)) := D432 (Or.inl (own_w hw 14 rfl)) (ty := .long) (by decide)
    have F440 : Fld Z h432 a432 "com/example/causeway/causeway/server/HandoverWait" "caughtUp" "Z" (.int (0 : Int32)) := D432 (Or.inl (own_w hw 21 rfl)) (ty := .boolean) (by decide)
    have F441 : Fld Z h432 a432 "com/example/causeway/causeway/server/HandoverWait" "caughtUpSince" "J" (.long (0 : Int64)) := D432 (Or.inl (own_w hw 23 rfl)) (ty := .long) (by decide)
    have F442 : Fld Z h432 a432 "com/example/causeway/causeway/server/HandoverWait" "led" "Z" (.int (0 : Int32)) := D432 (Or.inl (own_w hw 43 rfl)) (ty := .boolean) (by decide)
    have F443 : Fld Z h432 a432 "com/example/causeway/causeway/server/HandoverWait" "ledSince" "J" (.long (0 : Int64)) := D432 (Or.inl (own_w hw 45 rfl)) (ty := .long) (by decide)
    have F444 : Fld Z h432 a432 "com/example/causeway/causeway/server/HandoverWait" "ledUntil" "J" (.long (0 : Int64)) := D432 (Or.inl (own_w hw 47 rfl)) (ty := .long) (by decide)
    refine own_dup X432 hx (hb hby at_42) rfl 43 rfl ?_
    refine own_lloadN X432 hx (hb hby at_43) rfl 44 rfl ?_
    refine own_lloadN X432 hx (hb hby at_44) rfl 45 rfl ?_
    refine own_callI X432 hx hZ rfl hown (own_w hw 3 rfl) (own_w hw 4 rfl) (own_w hw 2 rfl) (own_w hw 5 rfl) (by decide) e432 (rm1 l Z a0 hw [] a432 le st h432 n0 Z434 ge433 ⟨A432, F437, F438, F439, F440, F441, F442, F443, F444⟩) (by rw [hml]; rfl) pd_0 (argsL := [(.long le), (.long st)]) rfl (rest := [(.ref a432)]) rfl (hb hby at_45) 1 (Nat.le_of_eq rfl) (by decide) (by decide) (by decide) (by decide) 48 rfl (fun T445 L445 v445 X445 hQ445 => ?_)
    obtain ⟨rfl, N445, K445, E445, F0_445, F1_445, F2_445, F3_445, F4_445, F5_445, F6_445, F7_445⟩ := hQ445
    have N446 := Fr.app N0 N445
    have O448 := O436.keep K445 (allS ge433 all0)
    have Z449 : n0 ≤ T445.heap.size := Nat.le_trans Z434 K445.1
    show own_Go p e below G (T445.setTop (mkF m 48 #[.val (.long le), .second, .val (.long st), .second, .val (.long t1), .second, .val (.long t2), .second, .val (.long q), .second, .val (.int fl), .val (.int (2 : Int32)), .val (.int (0 : Int32)), .val (.int (1 : Int32)), .unset, .unset, .unset, .unset, .unset, .unset, .unset] [(.ref a432)]))
    refine own_astore X445 hx (hb hby at_48) rfl #[.val (.long le), .second, .val (.long st), .second, .val (.long t1), .second, .val (.long t2), .second, .val (.long q), .second, .val (.int fl), .val (.int (2 : Int32)), .val (.int (0 : Int32)), .val (.int (1 : Int32)), .val (.ref a432), .unset, .unset, .unset, .unset, .unset, .unset] rfl 50 rfl ?_
    refine own_iload X445 hx (hb hby at_50) rfl 52 rfl ?_
    refine own_ifN X445 hx (hb hby at_52) ((if0 _ _).trans (feq (by decide)).1) 55 rfl ?_
    refine own_aload X445 hx (hb hby at_55) rfl rfl 57 rfl ?_
    refine own_iconst X445 hx (hb hby at_57) (1 : Int32) rfl 58 rfl ?_
    refine own_lload X445 hx (hb hby at_58) rfl 60 rfl ?_
    refine own_callV X445 hx hZ hown (own_w hw 37 rfl) (own_w hw 38 rfl) (own_w hw 40 rfl) (notFace_of_selects (args := #[]) (mvT hZ (own_w hw 40 rfl))) (own_w hw 39 rfl) (own_w hw 2 rfl) (own_w hw 41 rfl) (by decide) (rfl : T445.heap = T445.heap) E445 (rm6 l Z a0 hw [] a432 t1 le le st (0 : Int32) (0 : Int64) (0 : Int64) (0 : Int64) T445.heap n0 Z449 ge433 ⟨E445, F0_445, F1_445, F2_445, F3_445, F4_445, F5_445, F6_445, F7_445⟩) (by rw [hml]; rfl) pd_2 (argsL := [(.int (1 : Int32)), (.long t1)]) rfl (rest := []) rfl (hb hby at_60) 0 (Nat.le_of_eq rfl) (by decide) (by decide) (by decide) (by decide) 63 rfl (fun T450 L450 v450 X450 hQ450 => ?_)
    have hQ450 : v450 = some (.int (0 : Int32)) ∧ Fr n0 L450 ∧ Keep T445.heap T450.heap [a432] ∧ own_HW Z T450.heap a432 le le st (0 : Int32) (0 : Int64) (1 : Int32) t1 t1 := hQ450
    obtain ⟨rfl, N450, K450, E450, F0_450, F1_450, F2_450, F3_450, F4_450, F5_450, F6_450, F7_450⟩ := hQ450
    have N451 := Fr.app N446 N450
    have O453 := O448.keep K450 (allS ge433 all0)
    have Z454 : n0 ≤ T450.heap.size := Nat.le_trans Z449 K450.1
    show own_Go p e below G (T450.setTop (mkF m 63 #[.val (.long le), .second, .val (.long st), .second, .val (.long t1), .second, .val (.long t2), .second, .val (.long q), .second, .val (.int fl), .val (.int (2 : Int32)), .val (.int (0 : Int32)), .val (.int (1 : Int32)), .val (.ref a432), .unset, .unset, .unset, .unset, .unset, .unset] [(.int (0 : Int32))]))
    refine own_pop X450 hx (hb hby at_63) rfl 64 rfl ?_
    refine own_iload X450 hx (hb hby at_64) rfl 66 rfl ?_
    refine own_iconst X450 hx (hb hby at_66) (1 : Int32) rfl 67 rfl ?_
    refine own_icmpN X450 hx (hb hby at_67) (flt (by decide)).1 70 rfl ?_
    refine own_aload X450 hx (hb hby at_70) rfl rfl 72 rfl ?_
    refine own_lload X450 hx (hb hby at_72) rfl 74 rfl ?_
    refine own_callV X450 hx hZ hown (own_w hw 15 rfl) (own_w hw 16 rfl) (own_w hw 18 rfl) (notFace_of_selects (args := #[]) (mvT hZ (own_w hw 18 rfl))) (own_w hw 17 rfl) (own_w hw 2 rfl) (own_w hw 19 rfl) (by decide) (rfl : T450.heap = T450.heap) E450 (rm2 l Z a0 hw [] a432 t1 le le st (0 : Int32) (0 : Int64) (1 : Int32) t1 t1 T450.heap n0 Z454 ge433 ⟨E450, F0_450, F1_450, F2_450, F3_450, F4_450, F5_450, F6_450, F7_450⟩) (by rw [hml]; rfl) pd_3 (argsL := [(.long t1)]) rfl (rest := []) rfl (hb hby at_74) 0 (Nat.le_of_eq rfl) (by decide) (by decide) (by decide) (by decide) 77 rfl (fun T455 L455 v455 X455 hQ455 => ?_)
    have hQ455 : v455 = none ∧ Fr n0 L455 ∧ Keep T450.heap T455.heap [a432] ∧ own_HW Z T455.heap a432 le le st (1 : Int32) t1 (1 : Int32) t1 t1 := hQ455
    obtain ⟨rfl, N455, K455, E455, F0_455, F1_455, F2_455, F3_455, F4_455, F5_455, F6_455, F7_455⟩ := hQ455
    have N456 := Fr.app N451 N455
    have O458 := O453.keep K455 (allS ge433 all0)
    have Z459 : n0 ≤ T455.heap.size := Nat.le_trans Z454 K455.1
    show own_Go p e below G (T455.setTop (mkF m 77 #[.val (.long le), .second, .val (.long st), .second, .val (.long t1), .second, .val (.long t2), .second, .val (.long q), .second, .val (.int fl), .val (.int (2 : Int32)), .val (.int (0 : Int32)), .val (.int (1 : Int32)), .val (.ref a432), .unset, .unset, .unset, .unset, .unset, .unset] []))
    refine own_iload X455 hx (hb hby at_77) rfl 79 rfl ?_
    refine own_iconst X455 hx (hb hby at_79) (2 : Int32) rfl 80 rfl ?_
    refine own_icmpN X455 hx (hb hby at_80) (teq (by decide)).2 83 rfl ?_
    refine own_aload X455 hx (hb hby at_83) rfl rfl 85 rfl ?_
    refine own_lload X455 hx (hb hby at_85) rfl 87 rfl ?_
    refine own_callV X455 hx hZ hown (own_w hw 15 rfl) (own_w hw 16 rfl) (own_w hw 18 rfl) (notFace_of_selects (args := #[]) (mvT hZ (own_w hw 18 rfl))) (own_w hw 17 rfl) (own_w hw 2 rfl) (own_w hw 19 rfl) (by decide) (rfl : T455.heap = T455.heap) E455 (rm2 l Z a0 hw [] a432 t2 le le st (1 : Int32) t1 (1 : Int32) t1 t1 T455.heap n0 Z459 ge433 ⟨E455, F0_455, F1_455, F2_455, F3_455, F4_455, F5_455, F6_455, F7_455⟩) (by rw [hml]; rfl) pd_3 (argsL := [(.long t2)]) rfl (rest := []) rfl (hb hby at_87) 0 (Nat.le_of_eq rfl) (by decide) (by decide) (by decide) (by decide) 90 rfl (fun T460 L460 v460 X460 hQ460 => ?_)
    have hQ460 : v460 = none ∧ Fr n0 L460 ∧ Keep T455.heap T460.heap [a432] ∧ own_HW Z T460.heap a432 le le st (1 : Int32) t1 (1 : Int32) t1 t1 := hQ460
    obtain ⟨rfl, N460, K460, E460, F0_460, F1_460, F2_460, F3_460, F4_460, F5_460, F6_460, F7_460⟩ := hQ460
    have N461 := Fr.app N456 N460
    have O463 := O458.keep K460 (allS ge433 all0)
    have Z464 : n0 ≤ T460.heap.size := Nat.le_trans Z459 K460.1
    show own_Go p e below G (T460.setTop (mkF m 90 #[.val (.long le), .second, .val (.long st), .second, .val (.long t1), .second, .val (.long t2), .second, .val (.long q), .second, .val (.int fl), .val (.int (2 : Int32)), .val (.int (0 : Int32)), .val (.int (1 : Int32)), .val (.ref a432), .unset, .unset, .unset, .unset, .unset, .unset] []))
    refine own_iload X460 hx (hb hby at_90) rfl 92 rfl ?_
    refine own_iconst X460 hx (hb hby at_92) (3 : Int32) rfl 93 rfl ?_
    refine own_icmpY X460 hx (hb hby at_93) (tlt (by decide)).1 101 ⟨by decide, by decide⟩ ?_
    refine own_iload X460 hx (hb hby at_101) rfl 103 rfl ?_
    refine own_iconst X460 hx (hb hby at_103) (4 : Int32) rfl 104 rfl ?_
    refine own_icmpY X460 hx (hb hby at_104) (feq (by decide)).2 114 ⟨by decide, by decide⟩ ?_
    refine own_iload X460 hx (hb hby at_114) rfl 116 rfl ?_
    refine own_ifY X460 hx (hb hby at_116) ((if0 _ _).trans (teq (by decide)).1) 125 ⟨by decide, by decide⟩ ?_
    refine own_iload X460 hx (hb hby at_125) rfl 127 rfl ?_
    refine own_iconst X460 hx (hb hby at_127) (1 : Int32) rfl 128 rfl ?_
    refine own_icmpN X460 hx (hb hby at_128) (feq (by decide)).1 131 rfl ?_
    refine own_iload X460 hx (hb hby at_131) rfl 133 rfl ?_
    refine own_iconst X460 hx (hb hby at_133) (2 : Int32) rfl 134 rfl ?_
    refine own_icmpY X460 hx (hb hby at_134) (teq (by decide)).1 143 ⟨by decide, by decide⟩ ?_
    refine own_iconst X460 hx (hb hby at_143) (1 : Int32) rfl 144 rfl ?_
    refine own_goto X460 hx (hb hby at_144) 148 ⟨by decide, by decide⟩ ?_
    refine own_istore X460 hx (hb hby at_148) #[.val (.long le), .second, .val (.long st), .second, .val (.long t1), .second, .val (.long t2), .second, .val (.long q), .second, .val (.int fl), .val (.int (2 : Int32)), .val (.int (0 : Int32)), .val (.int (1 : Int32)), .val (.ref a432), .val (.int (1 : Int32)), .unset, .unset, .unset, .unset, .unset] rfl 150 rfl ?_
    refine own_iload X460 hx (hb hby at_150) rfl 152 rfl ?_
    refine own_iconst X460 hx (hb hby at_152) (4 : Int32) rfl 153 rfl ?_
    refine own_icmpY X460 hx (hb hby at_153) (feq (by decide)).2 161 ⟨by decide, by decide⟩ ?_
    refine own_lload X460 hx (hb hby at_161) rfl 163 rfl ?_
    refine own_lstore X460 hx (hb hby at_163) #[.val (.long le), .second, .val (.long st), .second, .val (.long t1), .second, .val (.long t2), .second, .val (.long q), .second, .val (.int fl), .val (.int (2 : Int32)), .val (.int (0 : Int32)), .val (.int (1 : Int32)), .val (.ref a432), .val (.int (1 : Int32)), .val (.long t1), .second, .unset, .unset, .unset] rfl 165 rfl ?_
    refine own_iload X460 hx (hb hby at_165) rfl 167 rfl ?_
    refine own_ifY X460 hx (hb hby at_167) ((if0 _ _).trans (teq (by decide)).1) 178 ⟨by decide, by decide⟩ ?_
    refine own_lloadN X460 hx (hb hby at_178) rfl 179 rfl ?_
    refine own_lstore X460 hx (hb hby at_179) #[.val (.long le), .second, .val (.long st), .second, .val (.long t1), .second, .val (.long t2), .second, .val (.long q), .second, .val (.int fl), .val (.int (2 : Int32)), .val (.int (0 : Int32)), .val (.int (1 : Int32)), .val (.ref a432), .val (.int (1 : Int32)), .val (.long t1), .second, .val (.long st), .second, .unset] rfl 181 rfl ?_
    suffices kj466 : ∀ u465 : Int32, u465 = own_due (1 : Int32) t1 le st q → own_Go p e below G (T460.setTop (mkF m 211 #[.val (.long le), .second, .val (.long st), .second, .val (.long t1), .second, .val (.long t2), .second, .val (.long q), .second, .val (.int fl), .val (.int (2 : Int32)), .val (.int (0 : Int32)), .val (.int (1 : Int32)), .val (.ref a432), .val (.int (1 : Int32)), .val (.long t1), .second, .val (.long st), .second, .unset] [(.int u465)])) by
      refine own_iload X460 hx (hb hby at_181) rfl 183 rfl ?_
      refine own_ifN X460 hx (hb hby at_183) ((if0 _ _).trans (feq (by decide)).1) 186 rfl ?_
      refine own_lload X460 hx (hb hby at_186) rfl 188 rfl ?_
      refine own_lload X460 hx (hb hby at_188) rfl 190 rfl ?_
      refine own_lsub X460 hx (hb hby at_190) 191 rfl ?_
      refine own_lloadN X460 hx (hb hby at_191) rfl 192 rfl ?_
      refine own_lcmp X460 hx (hb hby at_192) 193 rfl ?_
      by_cases c467 : (q - t1) < le
      ·
        refine own_ifY X460 hx (hb hby at_193) (own_ltL c467).1 210 ⟨by decide, by decide⟩ ?_
        refine own_iconst X460 hx (hb hby at_210) (0 : Int32) rfl 211 rfl ?_
        exact kj466 (0 : Int32) (by simp [own_due, c397, c467])
      ·
        refine own_ifN X460 hx (hb hby at_193) (own_nltL c467).1 196 rfl ?_
        refine own_lload X460 hx (hb hby at_196) rfl 198 rfl ?_
        refine own_lload X460 hx (hb hby at_198) rfl 200 rfl ?_
        refine own_lsub X460 hx (hb hby at_200) 201 rfl ?_
        refine own_lconst X460 hx (hb hby at_201) (0 : Int64) rfl 202 rfl ?_
        refine own_lcmp X460 hx (hb hby at_202) 203 rfl ?_
        by_cases c468 : (q - st) < (0 : Int64)
        ·
          refine own_ifY X460 hx (hb hby at_203) (own_ltL c468).1 210 ⟨by decide, by decide⟩ ?_
          refine own_iconst X460 hx (hb hby at_210) (0 : Int32) rfl 211 rfl ?_
          exact kj466 (0 : Int32) (by simp [own_due, c397, c467, c468])
        ·
          refine own_ifN X460 hx (hb hby at_203) (own_nltL c468).1 206 rfl ?_
          refine own_iconst X460 hx (hb hby at_206) (1 : Int32) rfl 207 rfl ?_
          refine own_goto X460 hx (hb hby at_207) 211 ⟨by decide, by decide⟩ ?_
          exact kj466 (1 : Int32) (by simp [own_due, c397, c467, c468])
    intro u465 hu465
    refine own_istore X460 hx (hb hby at_211) #[.val (.long le), .second, .val (.long st), .second, .val (.long t1), .second, .val (.long t2), .second, .val (.long q), .second, .val (.int fl), .val (.int (2 : Int32)), .val (.int (0 : Int32)), .val (.int (1 : Int32)), .val (.ref a432), .val (.int (1 : Int32)), .val (.long t1), .second, .val (.long st), .second, .val (.int u465)] rfl 213 rfl ?_
    refine own_aload X460 hx (hb hby at_213) rfl rfl 215 rfl ?_
    refine own_lload X460 hx (hb hby at_215) rfl 217 rfl ?_
    refine own_callV X460 hx hZ hown (own_w hw 24 rfl) (own_w hw 25 rfl) (own_w hw 27 rfl) (notFace_of_selects (args := #[]) (mvT hZ (own_w hw 27 rfl))) (own_w hw 26 rfl) (own_w hw 2 rfl) (own_w hw 28 rfl) (by decide) (rfl : T460.heap = T460.heap) E460 (rm4 l Z a0 hw [] a432 q le le st (1 : Int32) t1 (1 : Int32) t1 t1 T460.heap n0 Z464 ge433 ⟨E460, F0_460, F1_460, F2_460, F3_460, F4_460, F5_460, F6_460, F7_460⟩) (by rw [hml]; rfl) pd_1 (argsL := [(.long q)]) rfl (rest := []) rfl (hb hby at_217) 0 (Nat.le_of_eq rfl) (by decide) (by decide) (by decide) (by decide) 220 rfl (fun T469 L469 v469 X469 hQ469 => ?_)
    obtain ⟨rfl, N469, e469⟩ := hQ469
    have N470 := Fr.app N461 N469
    show own_Go p e below G (T469.setTop (mkF m 220 #[.val (.long le), .second, .val (.long st), .second, .val (.long t1), .second, .val (.long t2), .second, .val (.long q), .second, .val (.int fl), .val (.int (2 : Int32)), .val (.int (0 : Int32)), .val (.int (1 : Int32)), .val (.ref a432), .val (.int (1 : Int32)), .val (.long t1), .second, .val (.long st), .second, .val (.int u465)] [(.int (own_due (1 : Int32) t1 le st q))]))
    refine own_iload X469 hx (hb hby at_220) rfl 222 rfl ?_
    refine own_icmpN X469 hx (hb hby at_222) (teq (by subst hu465; simp [own_due])).2 225 rfl ?_
    refine own_iconst X469 hx (hb hby at_225) (1 : Int32) rfl 226 rfl ?_
    refine own_goto X469 hx (hb hby at_226) 230 ⟨by decide, by decide⟩ ?_
    refine own_nreturn X469 hx Bd.notSynchronized hG Bd.returns (by simp) (hb hby at_230) (by decide) (by decide) ?_
    rw [e469]
    exact ⟨rfl, N470⟩
theorem ef_rm0_2_1 (m : MethodId) (x0 : Int64) (x1 : Int64) (x2 : Int64) (x3 : Int64) (x4 : Int64) (x5 : Int32) : entryFrame m #[(.long x0), (.long x1), (.long x2), (.long x3), (.long x4), (.int x5)] maxLocals = mkF m 0 #[.val (.long x0), .second, .val (.long x1), .second, .val (.long x2), .second, .val (.long x3), .second, .val (.long x4), .second, .val (.int x5), .unset, .unset, .unset, .unset, .unset, .unset, .unset, .unset, .unset, .unset] [] := by first | (simp [entryFrame, mkF, argsToLocals, Value.category, maxLocals]; done) | rfl
set_option maxRecDepth 65536 in
set_option maxHeartbeats 40000000 in
theorem rm0_2_1 (l : Launch) (Z : State) (a0 : Array Value) (hw : ∀ d ∈ tables_1, d.before a0 Z = true) (ws : List Jvm.Cond) (le st t1 t2 q : Int64) (fl : Int32) (h0 : Heap) (n0 : Nat) (Z0 : n0 ≤ h0.size) (O0 : Old Z n0 h0) (S0 : Sta Z Z.heap "com/example/causeway/causeway/server/HandoverWait" "RETRY_NANOS" "J" (.long 5000000000)) (hmd : (fl &&& (7 : Int32)) % (5 : Int32) = 2) (hgv : ¬ (fl &&& (8 : Int32)) = (0 : Int32)) :
    MetFree l x (head1 (Jvm.Cond.code x code maxLocals ret :: ws) room_1) (fun aR U => aR = #[(.long le), (.long st), (.long t1), (.long t2), (.long q), (.int fl)] ∧ Z.Warmed39 U.vm ∧ U.heap = h0) (fun _ _ _ _ _ => True) (fun _ U o U' => ∃ v L, o = .returned v ∧ Q0 h0 n0 v U'.heap L ∧ FrameEnd U o U' L room_1.cells room_1.slots) := by
  refine MetFree.of_bodySF (plainFor_of_name pn_0) hisR ?_
  intro p e s m args below meth c s₁ Bd hml0 hP hK
  obtain ⟨rfl, hZ, hhE⟩ := hP
  have hx := Bd.exec
  have hby := Bd.bytes
  have hml : c.maxLocals = 21 := hml0
  have hown : s.vm.findClass "com/example/causeway/causeway/server/HandoverWaitDuePinLaw" = some m.cls := findClass_of_methodNamed Bd.named
  have hnm := (name_of_methodNamed Bd.named Bd.method).1
  have X0 : Stand p l e room_1 s m #[(.long le), (.long st), (.long t1), (.long t2), (.long q), (.int fl)] below meth c s₁ [] 0 0 := Stand.of_body Bd
  have e0 : s₁.heap = h0 := by rw [← hhE, Bd.state]; rfl
  have N0 := Fr.nil n0
  show own_Go p e below (own_Post s (Q0 h0 n0) room_1.cells room_1.slots) (s₁.setTop (entryFrame m #[(.long le), (.long st), (.long t1), (.long t2), (.long q), (.int fl)] maxLocals))
  rw [ef_rm0_2_1]
  generalize hG : own_Post s (Q0 h0 n0) room_1.cells room_1.slots = G
  refine own_iload X0 hx (hb hby at_0) rfl 2 rfl ?_
  refine own_bipush X0 hx (hb hby at_2) (7 : Int32) rfl 4 rfl ?_
  refine own_iand X0 hx (hb hby at_4) 5 rfl ?_
  refine own_iconst X0 hx (hb hby at_5) (5 : Int32) rfl 6 rfl ?_
  refine own_irem X0 hx (hb hby at_6) (by decide) 7 rfl ?_
  generalize hy471 : ((fl &&& (7 : Int32)) % (5 : Int32)) = y471
  refine own_istore X0 hx (hb hby at_7) #[.val (.long le), .second, .val (.long st), .second, .val (.long t1), .second, .val (.long t2), .second, .val (.long q), .second, .val (.int fl), .val (.int y471), .unset, .unset, .unset, .unset, .unset, .unset, .unset, .unset, .unset] rfl 9 rfl ?_
  obtain rfl : y471 = 2 := hy471.symm.trans hmd
  refine own_iload X0 hx (hb hby at_9) rfl 11 rfl ?_
  refine own_bipush X0 hx (hb hby at_11) (8 : Int32) rfl 13 rfl ?_
  refine own_iand X0 hx (hb hby at_13) 14 rfl ?_
  refine own_ifN X0 hx (hb hby at_14) ((if0 _ _).trans (feq hgv).1) 17 rfl ?_
  refine own_iconst X0 hx (hb hby at_17) (1 : Int32) rfl 18 rfl ?_
  refine own_goto X0 hx (hb hby at_18) 22 ⟨by decide, by decide⟩ ?_
  refine own_istore X0 hx (hb hby at_22) #[.val (.long le), .second, .val (.long st), .second, .val (.long t1), .second, .val (.long t2), .second, .val (.long q), .second, .val (.int fl), .val (.int (2 : Int32)), .val (.int (1 : Int32)), .unset, .unset, .unset, .unset, .unset, .unset, .unset, .unset] rfl 24 rfl ?_
  refine own_iload X0 hx (hb hby at_24) rfl 26 rfl ?_
  refine own_bipush X0 hx (hb hby at_26) (16 : Int32) rfl 28 rfl ?_
  refine own_iand X0 hx (hb hby at_28) 29 rfl ?_
  by_cases c472 : (fl &&& (16 : Int32)) = (0 : Int32)
  ·
    refine own_ifY X0 hx (hb hby at_29) ((if0 _ _).trans (teq c472).1) 36 ⟨by decide, by decide⟩ ?_
    refine own_iconst X0 hx (hb hby at_36) (0 : Int32) rfl 37 rfl ?_
    refine own_istore X0 hx (hb hby at_37) #[.val (.long le), .second, .val (.long st), .second, .val (.long t1), .second, .val (.long t2), .second, .val (.long q), .second, .val (.int fl), .val (.int (2 : Int32)), .val (.int (1 : Int32)), .val (.int (0 : Int32)), .unset, .unset, .unset, .unset, .unset, .unset, .unset] rfl 39 rfl ?_
    refine own_newO X0 hx hZ hown (own_w hw 0 rfl) (own_w hw 1 rfl) (own_w hw 2 rfl) e0 (hb hby at_39) (by decide) (by decide) 42 rfl (fun T473 h473 a473 g473 X473 e473 E473 A473 D473 => ?_)
    have ge474 : n0 ≤ a473 := by rw [g473]; exact Z0
    have Z475 : n0 ≤ h473.size := Nat.le_trans Z0 E473.1
    have O477 := O0.ext E473
    have F478 : Fld Z h473 a473 "com/example/causeway/causeway/server/HandoverWait" "leaseNanos" "J" (.long (0 : Int64)) := D473 (Or.inr (own_w hw 10 rfl)) (ty := .long) (by decide)
    have F479 : Fld Z h473 a473 "com/example/causeway/causeway/server/HandoverWait" "waitNanos" "J" (.long (0 : Int64)) := D473 (Or.inl (own_w hw 12 rfl)) (ty := .long) (by decide)
    have F480 : Fld Z h473 a473 "com/example/causeway/causeway/server/HandoverWait" "retryAfter" "J" (.long (0 : Int64)) := D473 (Or.inl (own_w hw 14 rfl)) (ty := .long) (by decide)
    have F481 : Fld Z h473 a473 "com/example/causeway/causeway/server/HandoverWait" "caughtUp" "Z" (.int (0 : Int32)) := D473 (Or.inl (own_w hw 21 rfl)) (ty := .boolean) (by decide)
    have F482 : Fld Z h473 a473 "com/example/causeway/causeway/server/HandoverWait" "caughtUpSince" "J" (.long (0 : Int64)) := D473 (Or.inl (own_w hw 23 rfl)) (ty := .long) (by decide)
    have F483 : Fld Z h473 a473 "com/example/causeway/causeway/server/HandoverWait" "led" "Z" (.int (0 : Int32)) := D473 (Or.inl (own_w hw 43 rfl)) (ty := .boolean) (by decide)
    have F484 : Fld Z h473 a473 "com/example/causeway/causeway/server/HandoverWait" "ledSince" "J" (.long (0 : Int64)) := D473 (Or.inl (own_w hw 45 rfl)) (ty := .long) (by decide)
    have F485 : Fld Z h473 a473 "com/example/causeway/causeway/server/HandoverWait" "ledUntil" "J" (.long (0 : Int64)) := D473 (Or.inl (own_w hw 47 rfl)) (ty := .long) (by decide)
    refine own_dup X473 hx (hb hby at_42) rfl 43 rfl ?_
    refine own_lloadN X473 hx (hb hby at_43) rfl 44 rfl ?_
    refine own_lloadN X473 hx (hb hby at_44) rfl 45 rfl ?_
    refine own_callI X473 hx hZ rfl hown (own_w hw 3 rfl) (own_w hw 4 rfl) (own_w hw 2 rfl) (own_w hw 5 rfl) (by decide) e473 (rm1 l Z a0 hw [] a473 le st h473 n0 Z475 ge474 ⟨A473, F478, F479, F480, F481, F482, F483, F484, F485⟩) (by rw [hml]; rfl) pd_0 (argsL := [(.long le), (.long st)]) rfl (rest := [(.ref a473)]) rfl (hb hby at_45) 1 (Nat.le_of_eq rfl) (by decide) (by decide) (by decide) (by decide) 48 rfl (fun T486 L486 v486 X486 hQ486 => ?_)
    obtain ⟨rfl, N486, K486, E486, F0_486, F1_486, F2_486, F3_486, F4_486, F5_486, F6_486, F7_486⟩ := hQ486
    have N487 := Fr.app N0 N486
    have O489 := O477.keep K486 (allS ge474 all0)
    have Z490 : n0 ≤ T486.heap.size := Nat.le_trans Z475 K486.1
    show own_Go p e below G (T486.setTop (mkF m 48 #[.val (.long le), .second, .val (.long st), .second, .val (.long t1), .second, .val (.long t2), .second, .val (.long q), .second, .val (.int fl), .val (.int (2 : Int32)), .val (.int (1 : Int32)), .val (.int (0 : Int32)), .unset, .unset, .unset, .unset, .unset, .unset, .unset] [(.ref a473)]))
    refine own_astore X486 hx (hb hby at_48) rfl #[.val (.long le), .second, .val (.long st), .second, .val (.long t1), .second, .val (.long t2), .second, .val (.long q), .second, .val (.int fl), .val (.int (2 : Int32)), .val (.int (1 : Int32)), .val (.int (0 : Int32)), .val (.ref a473), .unset, .unset, .unset, .unset, .unset, .unset] rfl 50 rfl ?_
    refine own_iload X486 hx (hb hby at_50) rfl 52 rfl ?_
    refine own_ifY X486 hx (hb hby at_52) ((if0 _ _).trans (teq (by decide)).1) 64 ⟨by decide, by decide⟩ ?_
    refine own_iload X486 hx (hb hby at_64) rfl 66 rfl ?_
    refine own_iconst X486 hx (hb hby at_66) (1 : Int32) rfl 67 rfl ?_
    refine own_icmpN X486 hx (hb hby at_67) (flt (by decide)).1 70 rfl ?_
    refine own_aload X486 hx (hb hby at_70) rfl rfl 72 rfl ?_
    refine own_lload X486 hx (hb hby at_72) rfl 74 rfl ?_
    refine own_callV X486 hx hZ hown (own_w hw 15 rfl) (own_w hw 16 rfl) (own_w hw 18 rfl) (notFace_of_selects (args := #[]) (mvT hZ (own_w hw 18 rfl))) (own_w hw 17 rfl) (own_w hw 2 rfl) (own_w hw 19 rfl) (by decide) (rfl : T486.heap = T486.heap) E486 (rm2 l Z a0 hw [] a473 t1 le le st (0 : Int32) (0 : Int64) (0 : Int32) (0 : Int64) (0 : Int64) T486.heap n0 Z490 ge474 ⟨E486, F0_486, F1_486, F2_486, F3_486, F4_486, F5_486, F6_486, F7_486⟩) (by rw [hml]; rfl) pd_3 (argsL := [(.long t1)]) rfl (rest := []) rfl (hb hby at_74) 0 (Nat.le_of_eq rfl) (by decide) (by decide) (by decide) (by decide) 77 rfl (fun T491 L491 v491 X491 hQ491 => ?_)
    have hQ491 : v491 = none ∧ Fr n0 L491 ∧ Keep T486.heap T491.heap [a473] ∧ own_HW Z T491.heap a473 le le st (1 : Int32) t1 (0 : Int32) (0 : Int64) (0 : Int64) := hQ491
    obtain ⟨rfl, N491, K491, E491, F0_491, F1_491, F2_491, F3_491, F4_491, F5_491, F6_491, F7_491⟩ := hQ491
    have N492 := Fr.app N487 N491
    have O494 := O489.keep K491 (allS ge474 all0)
    have Z495 : n0 ≤ T491.heap.size := Nat.le_trans Z490 K491.1
    show own_Go p e below G (T491.setTop (mkF m 77 #[.val (.long le), .second, .val (.long st), .second, .val (.long t1), .second, .val (.long t2), .second, .val (.long q), .second, .val (.int fl), .val (.int (2 : Int32)), .val (.int (1 : Int32)), .val (.int (0 : Int32)), .val (.ref a473), .unset, .unset, .unset, .unset, .unset, .unset] []))
    refine own_iload X491 hx (hb hby at_77) rfl 79 rfl ?_
    refine own_iconst X491 hx (hb hby at_79) (2 : Int32) rfl 80 rfl ?_
    refine own_icmpN X491 hx (hb hby at_80) (teq (by decide)).2 83 rfl ?_
    refine own_aload X491 hx (hb hby at_83) rfl rfl 85 rfl ?_
    refine own_lload X491 hx (hb hby at_85) rfl 87 rfl ?_
    refine own_callV X491 hx hZ hown (own_w hw 15 rfl) (own_w hw 16 rfl) (own_w hw 18 rfl) (notFace_of_selects (args := #[]) (mvT hZ (own_w hw 18 rfl))) (own_w hw 17 rfl) (own_w hw 2 rfl) (own_w hw 19 rfl) (by decide) (rfl : T491.heap = T491.heap) E491 (rm2 l Z a0 hw [] a473 t2 le le st (1 : Int32) t1 (0 : Int32) (0 : Int64) (0 : Int64) T491.heap n0 Z495 ge474 ⟨E491, F0_491, F1_491, F2_491, F3_491, F4_491, F5_491, F6_491, F7_491⟩) (by rw [hml]; rfl) pd_3 (argsL := [(.long t2)]) rfl (rest := []) rfl (hb hby at_87) 0 (Nat.le_of_eq rfl) (by decide) (by decide) (by decide) (by decide) 90 rfl (fun T496 L496 v496 X496 hQ496 => ?_)
    have hQ496 : v496 = none ∧ Fr n0 L496 ∧ Keep T491.heap T496.heap [a473] ∧ own_HW Z T496.heap a473 le le st (1 : Int32) t1 (0 : Int32) (0 : Int64) (0 : Int64) := hQ496
    obtain ⟨rfl, N496, K496, E496, F0_496, F1_496, F2_496, F3_496, F4_496, F5_496, F6_496, F7_496⟩ := hQ496
    have N497 := Fr.app N492 N496
    have O499 := O494.keep K496 (allS ge474 all0)
    have Z500 : n0 ≤ T496.heap.size := Nat.le_trans Z495 K496.1
    show own_Go p e below G (T496.setTop (mkF m 90 #[.val (.long le), .second, .val (.long st), .second, .val (.long t1), .second, .val (.long t2), .second, .val (.long q), .second, .val (.int fl), .val (.int (2 : Int32)), .val (.int (1 : Int32)), .val (.int (0 : Int32)), .val (.ref a473), .unset, .unset, .unset, .unset, .unset, .unset] []))
    refine own_iload X496 hx (hb hby at_90) rfl 92 rfl ?_
    refine own_iconst X496 hx (hb hby at_92) (3 : Int32) rfl 93 rfl ?_
    refine own_icmpY X496 hx (hb hby at_93) (tlt (by decide)).1 101 ⟨by decide, by decide⟩ ?_
    refine own_iload X496 hx (hb hby at_101) rfl 103 rfl ?_
    refine own_iconst X496 hx (hb hby at_103) (4 : Int32) rfl 104 rfl ?_
    refine own_icmpY X496 hx (hb hby at_104) (feq (by decide)).2 114 ⟨by decide, by decide⟩ ?_
    refine own_iload X496 hx (hb hby at_114) rfl 116 rfl ?_
    refine own_ifN X496 hx (hb hby at_116) ((if0 _ _).trans (feq (by decide)).1) 119 rfl ?_
    refine own_aload X496 hx (hb hby at_119) rfl rfl 121 rfl ?_
    refine own_lloadN X496 hx (hb hby at_121) rfl 122 rfl ?_
    refine own_callV X496 hx hZ hown (own_w hw 29 rfl) (own_w hw 30 rfl) (own_w hw 32 rfl) (notFace_of_selects (args := #[]) (mvT hZ (own_w hw 32 rfl))) (own_w hw 31 rfl) (own_w hw 2 rfl) (own_w hw 33 rfl) (by decide) (rfl : T496.heap = T496.heap) E496 (rm5 l Z a0 hw [] a473 st le le st (1 : Int32) t1 (0 : Int32) (0 : Int64) (0 : Int64) T496.heap n0 Z500 ge474 ⟨E496, F0_496, F1_496, F2_496, F3_496, F4_496, F5_496, F6_496, F7_496⟩ O499 S0) (by rw [hml]; rfl) pd_3 (argsL := [(.long st)]) rfl (rest := []) rfl (hb hby at_122) 0 (Nat.le_of_eq rfl) (by decide) (by decide) (by decide) (by decide) 125 rfl (fun T501 L501 v501 X501 hQ501 => ?_)
    have hQ501 : v501 = none ∧ Fr n0 L501 ∧ Keep T496.heap T501.heap [a473] ∧ own_HW Z T501.heap a473 le le (st + 5000000000) (1 : Int32) t1 (0 : Int32) (0 : Int64) (0 : Int64) := hQ501
    obtain ⟨rfl, N501, K501, E501, F0_501, F1_501, F2_501, F3_501, F4_501, F5_501, F6_501, F7_501⟩ := hQ501
    have N502 := Fr.app N497 N501
    have O504 := O499.keep K501 (allS ge474 all0)
    have Z505 : n0 ≤ T501.heap.size := Nat.le_trans Z500 K501.1
    show own_Go p e below G (T501.setTop (mkF m 125 #[.val (.long le), .second, .val (.long st), .second, .val (.long t1), .second, .val (.long t2), .second, .val (.long q), .second, .val (.int fl), .val (.int (2 : Int32)), .val (.int (1 : Int32)), .val (.int (0 : Int32)), .val (.ref a473), .unset, .unset, .unset, .unset, .unset, .unset] []))
    refine own_iload X501 hx (hb hby at_125) rfl 127 rfl ?_
    refine own_iconst X501 hx (hb hby at_127) (1 : Int32) rfl 128 rfl ?_
    refine own_icmpN X501 hx (hb hby at_128) (feq (by decide)).1 131 rfl ?_
    refine own_iload X501 hx (hb hby at_131) rfl 133 rfl ?_
    refine own_iconst X501 hx (hb hby at_133) (2 : Int32) rfl 134 rfl ?_
    refine own_icmpY X501 hx (hb hby at_134) (teq (by decide)).1 143 ⟨by decide, by decide⟩ ?_
    refine own_iconst X501 hx (hb hby at_143) (1 : Int32) rfl 144 rfl ?_
    refine own_goto X501 hx (hb hby at_144) 148 ⟨by decide, by decide⟩ ?_
    refine own_istore X501 hx (hb hby at_148) #[.val (.long le), .second, .val (.long st), .second, .val (.long t1), .second, .val (.long t2), .second, .val (.long q), .second, .val (.int fl), .val (.int (2 : Int32)), .val (.int (1 : Int32)), .val (.int (0 : Int32)), .val (.ref a473), .val (.int (1 : Int32)), .unset, .unset, .unset, .unset, .unset] rfl 150 rfl ?_
    refine own_iload X501 hx (hb hby at_150) rfl 152 rfl ?_
    refine own_iconst X501 hx (hb hby at_152) (4 : Int32) rfl 153 rfl ?_
    refine own_icmpY X501 hx (hb hby at_153) (feq (by decide)).2 161 ⟨by decide, by decide⟩ ?_
    refine own_lload X501 hx (hb hby at_161) rfl 163 rfl ?_
    refine own_lstore X501 hx (hb hby at_163) #[.val (.long le), .second, .val (.long st), .second, .val (.long t1), .second, .val (.long t2), .second, .val (.long q), .second, .val (.int fl), .val (.int (2 : Int32)), .val (.int (1 : Int32)), .val (.int (0 : Int32)), .val (.ref a473), .val (.int (1 : Int32)), .val (.long t1), .second, .unset, .unset, .unset] rfl 165 rfl ?_
    refine own_iload X501 hx (hb hby at_165) rfl 167 rfl ?_
    refine own_ifN X501 hx (hb hby at_167) ((if0 _ _).trans (feq (by decide)).1) 170 rfl ?_
    refine own_lloadN X501 hx (hb hby at_170) rfl 171 rfl ?_
    refine own_ldc2Long X501 hx hown (mvT hZ (own_w hw 36 rfl)) (hb hby at_171) 174 rfl ?_
    refine own_ladd X501 hx (hb hby at_174) 175 rfl ?_
    refine own_goto X501 hx (hb hby at_175) 179 ⟨by decide, by decide⟩ ?_
    refine own_lstore X501 hx (hb hby at_179) #[.val (.long le), .second, .val (.long st), .second, .val (.long t1), .second, .val (.long t2), .second, .val (.long q), .second, .val (.int fl), .val (.int (2 : Int32)), .val (.int (1 : Int32)), .val (.int (0 : Int32)), .val (.ref a473), .val (.int (1 : Int32)), .val (.long t1), .second, .val (.long (st + (5000000000 : Int64))), .second, .unset] rfl 181 rfl ?_
    suffices kj507 : ∀ u506 : Int32, u506 = own_due (1 : Int32) t1 le (st + (5000000000 : Int64)) q → own_Go p e below G (T501.setTop (mkF m 211 #[.val (.long le), .second, .val (.long st), .second, .val (.long t1), .second, .val (.long t2), .second, .val (.long q), .second, .val (.int fl), .val (.int (2 : Int32)), .val (.int (1 : Int32)), .val (.int (0 : Int32)), .val (.ref a473), .val (.int (1 : Int32)), .val (.long t1), .second, .val (.long (st + (5000000000 : Int64))), .second, .unset] [(.int u506)])) by
      refine own_iload X501 hx (hb hby at_181) rfl 183 rfl ?_
      refine own_ifN X501 hx (hb hby at_183) ((if0 _ _).trans (feq (by decide)).1) 186 rfl ?_
      refine own_lload X501 hx (hb hby at_186) rfl 188 rfl ?_
      refine own_lload X501 hx (hb hby at_188) rfl 190 rfl ?_
      refine own_lsub X501 hx (hb hby at_190) 191 rfl ?_
      refine own_lloadN X501 hx (hb hby at_191) rfl 192 rfl ?_
      refine own_lcmp X501 hx (hb hby at_192) 193 rfl ?_
      by_cases c508 : (q - t1) < le
      ·
        refine own_ifY X501 hx (hb hby at_193) (own_ltL c508).1 210 ⟨by decide, by decide⟩ ?_
        refine own_iconst X501 hx (hb hby at_210) (0 : Int32) rfl 211 rfl ?_
        exact kj507 (0 : Int32) (by simp [own_due, c472, c508])
      ·
        refine own_ifN X501 hx (hb hby at_193) (own_nltL c508).1 196 rfl ?_
        refine own_lload X501 hx (hb hby at_196) rfl 198 rfl ?_
        refine own_lload X501 hx (hb hby at_198) rfl 200 rfl ?_
        refine own_lsub X501 hx (hb hby at_200) 201 rfl ?_
        refine own_lconst X501 hx (hb hby at_201) (0 : Int64) rfl 202 rfl ?_
        refine own_lcmp X501 hx (hb hby at_202) 203 rfl ?_
        by_cases c509 : (q - (st + (5000000000 : Int64))) < (0 : Int64)
        ·
          refine own_ifY X501 hx (hb hby at_203) (own_ltL c509).1 210 ⟨by decide, by decide⟩ ?_
          refine own_iconst X501 hx (hb hby at_210) (0 : Int32) rfl 211 rfl ?_
          exact kj507 (0 : Int32) (by simp [own_due, c472, c508, c509])
        ·
          refine own_ifN X501 hx (hb hby at_203) (own_nltL c509).1 206 rfl ?_
          refine own_iconst X501 hx (hb hby at_206) (1 : Int32) rfl 207 rfl ?_
          refine own_goto X501 hx (hb hby at_207) 211 ⟨by decide, by decide⟩ ?_
          exact kj507 (1 : Int32) (by simp [own_due, c472, c508, c509])
    intro u506 hu506
    refine own_istore X501 hx (hb hby at_211) #[.val (.long le), .second, .val (.long st), .second, .val (.long t1), .second, .val (.long t2), .second, .val (.long q), .second, .val (.int fl), .val (.int (2 : Int32)), .val (.int (1 : Int32)), .val (.int (0 : Int32)), .val (.ref a473), .val (.int (1 : Int32)), .val (.long t1), .second, .val (.long (st + (5000000000 : Int64))), .second, .val (.int u506)] rfl 213 rfl ?_
    refine own_aload X501 hx (hb hby at_213) rfl rfl 215 rfl ?_
    refine own_lload X501 hx (hb hby at_215) rfl 217 rfl ?_
    refine own_callV X501 hx hZ hown (own_w hw 24 rfl) (own_w hw 25 rfl) (own_w hw 27 rfl) (notFace_of_selects (args := #[]) (mvT hZ (own_w hw 27 rfl))) (own_w hw 26 rfl) (own_w hw 2 rfl) (own_w hw 28 rfl) (by decide) (rfl : T501.heap = T501.heap) E501 (rm4 l Z a0 hw [] a473 q le le (st + 5000000000) (1 : Int32) t1 (0 : Int32) (0 : Int64) (0 : Int64) T501.heap n0 Z505 ge474 ⟨E501, F0_501, F1_501, F2_501, F3_501, F4_501, F5_501, F6_501, F7_501⟩) (by rw [hml]; rfl) pd_1 (argsL := [(.long q)]) rfl (rest := []) rfl (hb hby at_217) 0 (Nat.le_of_eq rfl) (by decide) (by decide) (by decide) (by decide) 220 rfl (fun T510 L510 v510 X510 hQ510 => ?_)
    obtain ⟨rfl, N510, e510⟩ := hQ510
    have N511 := Fr.app N502 N510
    show own_Go p e below G (T510.setTop (mkF m 220 #[.val (.long le), .second, .val (.long st), .second, .val (.long t1), .second, .val (.long t2), .second, .val (.long q), .second, .val (.int fl), .val (.int (2 : Int32)), .val (.int (1 : Int32)), .val (.int (0 : Int32)), .val (.ref a473), .val (.int (1 : Int32)), .val (.long t1), .second, .val (.long (st + (5000000000 : Int64))), .second, .val (.int u506)] [(.int (own_due (1 : Int32) t1 le (st + 5000000000) q))]))
    refine own_iload X510 hx (hb hby at_220) rfl 222 rfl ?_
    refine own_icmpN X510 hx (hb hby at_222) (teq (by subst hu506; simp [own_due])).2 225 rfl ?_
    refine own_iconst X510 hx (hb hby at_225) (1 : Int32) rfl 226 rfl ?_
    refine own_goto X510 hx (hb hby at_226) 230 ⟨by decide, by decide⟩ ?_
    refine own_nreturn X510 hx Bd.notSynchronized hG Bd.returns (by simp) (hb hby at_230) (by decide) (by decide) ?_
    rw [e510]
    exact ⟨rfl, N511⟩
  ·
    refine own_ifN X0 hx (hb hby at_29) ((if0 _ _).trans (feq c472).1) 32 rfl ?_
    refine own_iconst X0 hx (hb hby at_32) (1 : Int32) rfl 33 rfl ?_
    refine own_goto X0 hx (hb hby at_33) 37 ⟨by decide, by decide⟩ ?_
    refine own_istore X0 hx (hb hby at_37) #[.val (.long le), .second, .val (.long st), .second, .val (.long t1), .second, .val (.long t2), .second, .val (.long q), .second, .val (.int fl), .val (.int (2 : Int32)), .val (.int (1 : Int32)), .val (.int (1 : Int32)), .unset, .unset, .unset, .unset, .unset, .unset, .unset] rfl 39 rfl ?_
    refine own_newO X0 hx hZ hown (own_w hw 0 rfl) (own_w hw 1 rfl) (own_w hw 2 rfl) e0 (hb hby at_39) (by decide) (by decide) 42 rfl (fun T512 h512 a512 g512 X512 e512 E512 A512 D512 => ?_)
    have ge513 : n0 ≤ a512 := by rw [g512]; exact Z0
    have Z514 : n0 ≤ h512.size := Nat.le_trans Z0 E512.1
    have O516 := O0.ext E512
    have F517 : Fld Z h512 a512 "com/example/causeway/causeway/server/HandoverWait" "leaseNanos" "J" (.long (0 : Int64)) := D512 (Or.inr (own_w hw 10 rfl)) (ty := .long) (by decide)
    have F518 : Fld Z h512 a512 "com/example/causeway/causeway/server/HandoverWait" "waitNanos" "J" (.long (0 : Int64)) := D512 (Or.inl (own_w hw 12 rfl)) (ty := .long) (by decide)
    have F519 : Fld Z h512 a512 "com/example/causeway/causeway/server/HandoverWait" "retryAfter" "J" (.long (0 : Int64)) := D512 (Or.inl (own_w hw 14 rfl)) (ty := .long) (by decide)
    have F520 : Fld Z h512 a512 "com/example/causeway/causeway/server/HandoverWait" "caughtUp" "Z" (.int (0 : Int32)) := D512 (Or.inl (own_w hw 21 rfl)) (ty := .boolean) (by decide)
    have F521 : Fld Z h512 a512 "com/example/causeway/causeway/server/HandoverWait" "caughtUpSince" "J" (.long (0 : Int64)) := D512 (Or.inl (own_w hw 23 rfl)) (ty := .long) (by decide)
    have F522 : Fld Z h512 a512 "com/example/causeway/causeway/server/HandoverWait" "led" "Z" (.int (0 : Int32)) := D512 (Or.inl (own_w hw 43 rfl)) (ty := .boolean) (by decide)
    have F523 : Fld Z h512 a512 "com/example/causeway/causeway/server/HandoverWait" "ledSince" "J" (.long (0 : Int64)) := D512 (Or.inl (own_w hw 45 rfl)) (ty := .long) (by decide)
    have F524 : Fld Z h512 a512 "com/example/causeway/causeway/server/HandoverWait" "ledUntil" "J" (.long (0 : Int64)) := D512 (Or.inl (own_w hw 47 rfl)) (ty := .long) (by decide)
    refine own_dup X512 hx (hb hby at_42) rfl 43 rfl ?_
    refine own_lloadN X512 hx (hb hby at_43) rfl 44 rfl ?_
    refine own_lloadN X512 hx (hb hby at_44) rfl 45 rfl ?_
    refine own_callI X512 hx hZ rfl hown (own_w hw 3 rfl) (own_w hw 4 rfl) (own_w hw 2 rfl) (own_w hw 5 rfl) (by decide) e512 (rm1 l Z a0 hw [] a512 le st h512 n0 Z514 ge513 ⟨A512, F517, F518, F519, F520, F521, F522, F523, F524⟩) (by rw [hml]; rfl) pd_0 (argsL := [(.long le), (.long st)]) rfl (rest := [(.ref a512)]) rfl (hb hby at_45) 1 (Nat.le_of_eq rfl) (by decide) (by decide) (by decide) (by decide) 48 rfl (fun T525 L525 v525 X525 hQ525 => ?_)
    obtain ⟨rfl, N525, K525, E525, F0_525, F1_525, F2_525, F3_525, F4_525, F5_525, F6_525, F7_525⟩ := hQ525
    have N526 := Fr.app N0 N525
    have O528 := O516.keep K525 (allS ge513 all0)
    have Z529 : n0 ≤ T525.heap.size := Nat.le_trans Z514 K525.1
    show own_Go p e below G (T525.setTop (mkF m 48 #[.val (.long le), .second, .val (.long st), .second, .val (.long t1), .second, .val (.long t2), .second, .val (.long q), .second, .val (.int fl), .val (.int (2 : Int32)), .val (.int (1 : Int32)), .val (.int (1 : Int32)), .unset, .unset, .unset, .unset, .unset, .unset, .unset] [(.ref a512)]))
    refine own_astore X525 hx (hb hby at_48) rfl #[.val (.long le), .second, .val (.long st), .second, .val (.long t1), .second, .val (.long t2), .second, .val (.long q), .second, .val (.int fl), .val (.int (2 : Int32)), .val (.int (1 : Int32)), .val (.int (1 : Int32)), .val (.ref a512), .unset, .unset, .unset, .unset, .unset, .unset] rfl 50 rfl ?_
    refine own_iload X525 hx (hb hby at_50) rfl 52 rfl ?_
    refine own_ifN X525 hx (hb hby at_52) ((if0 _ _).trans (feq (by decide)).1) 55 rfl ?_
    refine own_aload X525 hx (hb hby at_55) rfl rfl 57 rfl ?_
    refine own_iconst X525 hx (hb hby at_57) (1 : Int32) rfl 58 rfl ?_
    refine own_lload X525 hx (hb hby at_58) rfl 60 rfl ?_
    refine own_callV X525 hx hZ hown (own_w hw 37 rfl) (own_w hw 38 rfl) (own_w hw 40 rfl) (notFace_of_selects (args := #[]) (mvT hZ (own_w hw 40 rfl))) (own_w hw 39 rfl) (own_w hw 2 rfl) (own_w hw 41 rfl) (by decide) (rfl : T525.heap = T525.heap) E525 (rm6 l Z a0 hw [] a512 t1 le le st (0 : Int32) (0 : Int64) (0 : Int64) (0 : Int64) T525.heap n0 Z529 ge513 ⟨E525, F0_525, F1_525, F2_525, F3_525, F4_525, F5_525, F6_525, F7_525⟩) (by rw [hml]; rfl) pd_2 (argsL := [(.int (1 : Int32)), (.long t1)]) rfl (rest := []) rfl (hb hby at_60) 0 (Nat.le_of_eq rfl) (by decide) (by decide) (by decide) (by decide) 63 rfl (fun T530 L530 v530 X530 hQ530 => ?_)
    have hQ530 : v530 = some (.int (0 : Int32)) ∧ Fr n0 L530 ∧ Keep T525.heap T530.heap [a512] ∧ own_HW Z T530.heap a512 le le st (0 : Int32) (0 : Int64) (1 : Int32) t1 t1 := hQ530
    obtain ⟨rfl, N530, K530, E530, F0_530, F1_530, F2_530, F3_530, F4_530, F5_530, F6_530, F7_530⟩ := hQ530
    have N531 := Fr.app N526 N530
    have O533 := O528.keep K530 (allS ge513 all0)
    have Z534 : n0 ≤ T530.heap.size := Nat.le_trans Z529 K530.1
    show own_Go p e below G (T530.setTop (mkF m 63 #[.val (.long le), .second, .val (.long st), .second, .val (.long t1), .second, .val (.long t2), .second, .val (.long q), .second, .val (.int fl), .val (.int (2 : Int32)), .val (.int (1 : Int32)), .val (.int (1 : Int32)), .val (.ref a512), .unset, .unset, .unset, .unset, .unset, .unset] [(.int (0 : Int32))]))
    refine own_pop X530 hx (hb hby at_63) rfl 64 rfl ?_
    refine own_iload X530 hx (hb hby at_64) rfl 66 rfl ?_
    refine own_iconst X530 hx (hb hby at_66) (1 : Int32) rfl 67 rfl ?_
    refine own_icmpN X530 hx (hb hby at_67) (flt (by decide)).1 70 rfl ?_
    refine own_aload X530 hx (hb hby at_70) rfl rfl 72 rfl ?_
    refine own_lload X530 hx (hb hby at_72) rfl 74 rfl ?_
    refine own_callV X530 hx hZ hown (own_w hw 15 rfl) (own_w hw 16 rfl) (own_w hw 18 rfl) (notFace_of_selects (args := #[]) (mvT hZ (own_w hw 18 rfl))) (own_w hw 17 rfl) (own_w hw 2 rfl) (own_w hw 19 rfl) (by decide) (rfl : T530.heap = T530.heap) E530 (rm2 l Z a0 hw [] a512 t1 le le st (0 : Int32) (0 : Int64) (1 : Int32) t1 t1 T530.heap n0 Z534 ge513 ⟨E530, F0_530, F1_530, F2_530, F3_530, F4_530, F5_530, F6_530, F7_530⟩) (by rw [hml]; rfl) pd_3 (argsL := [(.long t1)]) rfl (rest := []) rfl (hb hby at_74) 0 (Nat.le_of_eq rfl) (by decide) (by decide) (by decide) (by decide) 77 rfl (fun T535 L535 v535 X535 hQ535 => ?_)
    have hQ535 : v535 = none ∧ Fr n0 L535 ∧ Keep T530.heap T535.heap [a512] ∧ own_HW Z T535.heap a512 le le st (1 : Int32) t1 (1 : Int32) t1 t1 := hQ535
    obtain ⟨rfl, N535, K535, E535, F0_535, F1_535, F2_535, F3_535, F4_535, F5_535, F6_535, F7_535⟩ := hQ535
    have N536 := Fr.app N531 N535
    have O538 := O533.keep K535 (allS ge513 all0)
    have Z539 : n0 ≤ T535.heap.size := Nat.le_trans Z534 K535.1
    show own_Go p e below G (T535.setTop (mkF m 77 #[.val (.long le), .second, .val (.long st), .second, .val (.long t1), .second, .val (.long t2), .second, .val (.long q), .second, .val (.int fl), .val (.int (2 : Int32)), .val (.int (1 : Int32)), .val (.int (1 : Int32)), .val (.ref a512), .unset, .unset, .unset, .unset, .unset, .unset] []))
    refine own_iload X535 hx (hb hby at_77) rfl 79 rfl ?_
    refine own_iconst X535 hx (hb hby at_79) (2 : Int32) rfl 80 rfl ?_
    refine own_icmpN X535 hx (hb hby at_80) (teq (by decide)).2 83 rfl ?_
    refine own_aload X535 hx (hb hby at_83) rfl rfl 85 rfl ?_
    refine own_lload X535 hx (hb hby at_85) rfl 87 rfl ?_
    refine own_callV X535 hx hZ hown (own_w hw 15 rfl) (own_w hw 16 rfl) (own_w hw 18 rfl) (notFace_of_selects (args := #[]) (mvT hZ (own_w hw 18 rfl))) (own_w hw 17 rfl) (own_w hw 2 rfl) (own_w hw 19 rfl) (by decide) (rfl : T535.heap = T535.heap) E535 (rm2 l Z a0 hw [] a512 t2 le le st (1 : Int32) t1 (1 : Int32) t1 t1 T535.heap n0 Z539 ge513 ⟨E535, F0_535, F1_535, F2_535, F3_535, F4_535, F5_535, F6_535, F7_535⟩) (by rw [hml]; rfl) pd_3 (argsL := [(.long t2)]) rfl (rest := []) rfl (hb hby at_87) 0 (Nat.le_of_eq rfl) (by decide) (by decide) (by decide) (by decide) 90 rfl (fun T540 L540 v540 X540 hQ540 => ?_)
    have hQ540 : v540 = none ∧ Fr n0 L540 ∧ Keep T535.heap T540.heap [a512] ∧ own_HW Z T540.heap a512 le le st (1 : Int32) t1 (1 : Int32) t1 t1 := hQ540
    obtain ⟨rfl, N540, K540, E540, F0_540, F1_540, F2_540, F3_540, F4_540, F5_540, F6_540, F7_540⟩ := hQ540
    have N541 := Fr.app N536 N540
    have O543 := O538.keep K540 (allS ge513 all0)
    have Z544 : n0 ≤ T540.heap.size := Nat.le_trans Z539 K540.1
    show own_Go p e below G (T540.setTop (mkF m 90 #[.val (.long le), .second, .val (.long st), .second, .val (.long t1), .second, .val (.long t2), .second, .val (.long q), .second, .val (.int fl), .val (.int (2 : Int32)), .val (.int (1 : Int32)), .val (.int (1 : Int32)), .val (.ref a512), .unset, .unset, .unset, .unset, .unset, .unset] []))
    refine own_iload X540 hx (hb hby at_90) rfl 92 rfl ?_
    refine own_iconst X540 hx (hb hby at_92) (3 : Int32) rfl 93 rfl ?_
    refine own_icmpY X540 hx (hb hby at_93) (tlt (by decide)).1 101 ⟨by decide, by decide⟩ ?_
    refine own_iload X540 hx (hb hby at_101) rfl 103 rfl ?_
    refine own_iconst X540 hx (hb hby at_103) (4 : Int32) rfl 104 rfl ?_
    refine own_icmpY X540 hx (hb hby at_104) (feq (by decide)).2 114 ⟨by decide, by decide⟩ ?_
    refine own_iload X540 hx (hb hby at_114) rfl 116 rfl ?_
    refine own_ifN X540 hx (hb hby at_116) ((if0 _ _).trans (feq (by decide)).1) 119 rfl ?_
    refine own_aload X540 hx (hb hby at_119) rfl rfl 121 rfl ?_
    refine own_lloadN X540 hx (hb hby at_121) rfl 122 rfl ?_
    refine own_callV X540 hx hZ hown (own_w hw 29 rfl) (own_w hw 30 rfl) (own_w hw 32 rfl) (notFace_of_selects (args := #[]) (mvT hZ (own_w hw 32 rfl))) (own_w hw 31 rfl) (own_w hw 2 rfl) (own_w hw 33 rfl) (by decide) (rfl : T540.heap = T540.heap) E540 (rm5 l Z a0 hw [] a512 st le le st (1 : Int32) t1 (1 : Int32) t1 t1 T540.heap n0 Z544 ge513 ⟨E540, F0_540, F1_540, F2_540, F3_540, F4_540, F5_540, F6_540, F7_540⟩ O543 S0) (by rw [hml]; rfl) pd_3 (argsL := [(.long st)]) rfl (rest := []) rfl (hb hby at_122) 0 (Nat.le_of_eq rfl) (by decide) (by decide) (by decide) (by decide) 125 rfl (fun T545 L545 v545 X545 hQ545 => ?_)
    have hQ545 : v545 = none ∧ Fr n0 L545 ∧ Keep T540.heap T545.heap [a512] ∧ own_HW Z T545.heap a512 le le (st + 5000000000) (1 : Int32) t1 (1 : Int32) t1 t1 := hQ545
    obtain ⟨rfl, N545, K545, E545, F0_545, F1_545, F2_545, F3_545, F4_545, F5_545, F6_545, F7_545⟩ := hQ545
    have N546 := Fr.app N541 N545
    have O548 := O543.keep K545 (allS ge513 all0)
    have Z549 : n0 ≤ T545.heap.size := Nat.le_trans Z544 K545.1
    show own_Go p e below G (T545.setTop (mkF m 125 #[.val (.long le), .second, .val (.long st), .second, .val (.long t1), .second, .val (.long t2), .second, .val (.long q), .second, .val (.int fl), .val (.int (2 : Int32)), .val (.int (1 : Int32)), .val (.int (1 : Int32)), .val (.ref a512), .unset, .unset, .unset, .unset, .unset, .unset] []))
    refine own_iload X545 hx (hb hby at_125) rfl 127 rfl ?_
    refine own_iconst X545 hx (hb hby at_127) (1 : Int32) rfl 128 rfl ?_
    refine own_icmpN X545 hx (hb hby at_128) (feq (by decide)).1 131 rfl ?_
    refine own_iload X545 hx (hb hby at_131) rfl 133 rfl ?_
    refine own_iconst X545 hx (hb hby at_133) (2 : Int32) rfl 134 rfl ?_
    refine own_icmpY X545 hx (hb hby at_134) (teq (by decide)).1 143 ⟨by decide, by decide⟩ ?_
    refine own_iconst X545 hx (hb hby at_143) (1 : Int32) rfl 144 rfl ?_
    refine own_goto X545 hx (hb hby at_144) 148 ⟨by decide, by decide⟩ ?_
    refine own_istore X545 hx (hb hby at_148) #[.val (.long le), .second, .val (.long st), .second, .val (.long t1), .second, .val (.long t2), .second, .val (.long q), .second, .val (.int fl), .val (.int (2 : Int32)), .val (.int (1 : Int32)), .val (.int (1 : Int32)), .val (.ref a512), .val (.int (1 : Int32)), .unset, .unset, .unset, .unset, .unset] rfl 150 rfl ?_
    refine own_iload X545 hx (hb hby at_150) rfl 152 rfl ?_
    refine own_iconst X545 hx (hb hby at_152) (4 : Int32) rfl 153 rfl ?_
    refine own_icmpY X545 hx (hb hby at_153) (feq (by decide)).2 161 ⟨by decide, by decide⟩ ?_
    refine own_lload X545 hx (hb hby at_161) rfl 163 rfl ?_
    refine own_lstore X545 hx (hb hby at_163) #[.val (.long le), .second, .val (.long st), .second, .val (.long t1), .second, .val (.long t2), .second, .val (.long q), .second, .val (.int fl), .val (.int (2 : Int32)), .val (.int (1 : Int32)), .val (.int (1 : Int32)), .val (.ref a512), .val (.int (1 : Int32)), .val (.long t1), .second, .unset, .unset, .unset] rfl 165 rfl ?_
    refine own_iload X545 hx (hb hby at_165) rfl 167 rfl ?_
    refine own_ifN X545 hx (hb hby at_167) ((if0 _ _).trans (feq (by decide)).1) 170 rfl ?_
    refine own_lloadN X545 hx (hb hby at_170) rfl 171 rfl ?_
    refine own_ldc2Long X545 hx hown (mvT hZ (own_w hw 36 rfl)) (hb hby at_171) 174 rfl ?_
    refine own_ladd X545 hx (hb hby at_174) 175 rfl ?_
    refine own_goto X545 hx (hb hby at_175) 179 ⟨by decide, by decide⟩ ?_
    refine own_lstore X545 hx (hb hby at_179) #[.val (.long le), .second, .val (.long st), .second, .val (.long t1), .second, .val (.long t2), .second, .val (.long q), .second, .val (.int fl), .val (.int (2 : Int32)), .val (.int (1 : Int32)), .val (.int (1 : Int32)), .val (.ref a512), .val (.int (1 : Int32)), .val (.long t1), .second, .val (.long (st + (5000000000 : Int64))), .second, .unset] rfl 181 rfl ?_
    suffices kj551 : ∀ u550 : Int32, u550 = own_due (1 : Int32) t1 le (st + (5000000000 : Int64)) q → own_Go p e below G (T545.setTop (mkF m 211 #[.val (.long le), .second, .val (.long st), .second, .val (.long t1), .second, .val (.long t2), .second, .val (.long q), .second, .val (.int fl), .val (.int (2 : Int32)), .val (.int (1 : Int32)), .val (.int (1 : Int32)), .val (.ref a512), .val (.int (1 : Int32)), .val (.long t1), .second, .val (.long (st + (5000000000 : Int64))), .second, .unset] [(.int u550)])) by
      refine own_iload X545 hx (hb hby at_181) rfl 183 rfl ?_
      refine own_ifN X545 hx (hb hby at_183) ((if0 _ _).trans (feq (by decide)).1) 186 rfl ?_
      refine own_lload X545 hx (hb hby at_186) rfl 188 rfl ?_
      refine own_lload X545 hx (hb hby at_188) rfl 190 rfl ?_
      refine own_lsub X545 hx (hb hby at_190) 191 rfl ?_
      refine own_lloadN X545 hx (hb hby at_191) rfl 192 rfl ?_
      refine own_lcmp X545 hx (hb hby at_192) 193 rfl ?_
      by_cases c552 : (q - t1) < le
      ·
        refine own_ifY X545 hx (hb hby at_193) (own_ltL c552).1 210 ⟨by decide, by decide⟩ ?_
        refine own_iconst X545 hx (hb hby at_210) (0 : Int32) rfl 211 rfl ?_
        exact kj551 (0 : Int32) (by simp [own_due, c472, c552])
      ·
        refine own_ifN X545 hx (hb hby at_193) (own_nltL c552).1 196 rfl ?_
        refine own_lload X545 hx (hb hby at_196) rfl 198 rfl ?_
        refine own_lload X545 hx (hb hby at_198) rfl 200 rfl ?_
        refine own_lsub X545 hx (hb hby at_200) 201 rfl ?_
        refine own_lconst X545 hx (hb hby at_201) (0 : Int64) rfl 202 rfl ?_
        refine own_lcmp X545 hx (hb hby at_202) 203 rfl ?_
        by_cases c553 : (q - (st + (5000000000 : Int64))) < (0 : Int64)
        ·
          refine own_ifY X545 hx (hb hby at_203) (own_ltL c553).1 210 ⟨by decide, by decide⟩ ?_
          refine own_iconst X545 hx (hb hby at_210) (0 : Int32) rfl 211 rfl ?_
          exact kj551 (0 : Int32) (by simp [own_due, c472, c552, c553])
        ·
          refine own_ifN X545 hx (hb hby at_203) (own_nltL c553).1 206 rfl ?_
          refine own_iconst X545 hx (hb hby at_206) (1 : Int32) rfl 207 rfl ?_
          refine own_goto X545 hx (hb hby at_207) 211 ⟨by decide, by decide⟩ ?_
          exact kj551 (1 : Int32) (by simp [own_due, c472, c552, c553])
    intro u550 hu550
    refine own_istore X545 hx (hb hby at_211) #[.val (.long le), .second, .val (.long st), .second, .val (.long t1), .second, .val (.long t2), .second, .val (.long q), .second, .val (.int fl), .val (.int (2 : Int32)), .val (.int (1 : Int32)), .val (.int (1 : Int32)), .val (.ref a512), .val (.int (1 : Int32)), .val (.long t1), .second, .val (.long (st + (5000000000 : Int64))), .second, .val (.int u550)] rfl 213 rfl ?_
    refine own_aload X545 hx (hb hby at_213) rfl rfl 215 rfl ?_
    refine own_lload X545 hx (hb hby at_215) rfl 217 rfl ?_
    refine own_callV X545 hx hZ hown (own_w hw 24 rfl) (own_w hw 25 rfl) (own_w hw 27 rfl) (notFace_of_selects (args := #[]) (mvT hZ (own_w hw 27 rfl))) (own_w hw 26 rfl) (own_w hw 2 rfl) (own_w hw 28 rfl) (by decide) (rfl : T545.heap = T545.heap) E545 (rm4 l Z a0 hw [] a512 q le le (st + 5000000000) (1 : Int32) t1 (1 : Int32) t1 t1 T545.heap n0 Z549 ge513 ⟨E545, F0_545, F1_545, F2_545, F3_545, F4_545, F5_545, F6_545, F7_545⟩) (by rw [hml]; rfl) pd_1 (argsL := [(.long q)]) rfl (rest := []) rfl (hb hby at_217) 0 (Nat.le_of_eq rfl) (by decide) (by decide) (by decide) (by decide) 220 rfl (fun T554 L554 v554 X554 hQ554 => ?_)
    obtain ⟨rfl, N554, e554⟩ := hQ554
    have N555 := Fr.app N546 N554
    show own_Go p e below G (T554.setTop (mkF m 220 #[.val (.long le), .second, .val (.long st), .second, .val (.long t1), .second, .val (.long t2), .second, .val (.long q), .second, .val (.int fl), .val (.int (2 : Int32)), .val (.int (1 : Int32)), .val (.int (1 : Int32)), .val (.ref a512), .val (.int (1 : Int32)), .val (.long t1), .second, .val (.long (st + (5000000000 : Int64))), .second, .val (.int u550)] [(.int (own_due (1 : Int32) t1 le (st + 5000000000) q))]))
    refine own_iload X554 hx (hb hby at_220) rfl 222 rfl ?_
    refine own_icmpN X554 hx (hb hby at_222) (teq (by subst hu550; simp [own_due])).2 225 rfl ?_
    refine own_iconst X554 hx (hb hby at_225) (1 : Int32) rfl 226 rfl ?_
    refine own_goto X554 hx (hb hby at_226) 230 ⟨by decide, by decide⟩ ?_
    refine own_nreturn X554 hx Bd.notSynchronized hG Bd.returns (by simp) (hb hby at_230) (by decide) (by decide) ?_
    rw [e554]
    exact ⟨rfl, N555⟩
theorem ef_rm0_3_0 (m : MethodId) (x0 : Int64) (x1 : Int64) (x2 : Int64) (x3 : Int64) (x4 : Int64) (x5 : Int32) : entryFrame m #[(.long x0), (.long x1), (.long x2), (.long x3), (.long x4), (.int x5)] maxLocals = mkF m 0 #[.val (.long x0), .second, .val (.long x1), .second, .val (.long x2), .second, .val (.long x3), .second, .val (.long x4), .second, .val (.int x5), .unset, .unset, .unset, .unset, .unset, .unset, .unset, .unset, .unset, .unset] [] := by first | (simp [entryFrame, mkF, argsToLocals, Value.category, maxLocals]; done) | rfl
set_option maxRecDepth 65536 in
set_option maxHeartbeats 40000000 in
theorem rm0_3_0 (l : Launch) (Z : State) (a0 : Array Value) (hw : ∀ d ∈ tables_1, d.before a0 Z = true) (ws : List Jvm.Cond) (le st t1 t2 q : Int64) (fl : Int32) (h0 : Heap) (n0 : Nat) (Z0 : n0 ≤ h0.size) (O0 : Old Z n0 h0) (S0 : Sta Z Z.heap "com/example/causeway/causeway/server/HandoverWait" "RETRY_NANOS" "J" (.long 5000000000)) (hmd : (fl &&& (7 : Int32)) % (5 : Int32) = 3) (hgv : (fl &&& (8 : Int32)) = (0 : Int32)) :
    MetFree l x (head1 (Jvm.Cond.code x code maxLocals ret :: ws) room_1) (fun aR U => aR = #[(.long le), (.long st), (.long t1), (.long t2), (.long q), (.int fl)] ∧ Z.Warmed39 U.vm ∧ U.heap = h0) (fun _ _ _ _ _ => True) (fun _ U o U' => ∃ v L, o = .returned v ∧ Q0 h0 n0 v U'.heap L ∧ FrameEnd U o U' L room_1.cells room_1.slots) := by
  refine MetFree.of_bodySF (plainFor_of_name pn_0) hisR ?_
  intro p e s m args below meth c s₁ Bd hml0 hP hK
  obtain ⟨rfl, hZ, hhE⟩ := hP
  have hx := Bd.exec
  have hby := Bd.bytes
  have hml : c.maxLocals = 21 := hml0
  have hown : s.vm.findClass "com/example/causeway/causeway/server/HandoverWaitDuePinLaw" = some m.cls := findClass_of_methodNamed Bd.named
  have hnm := (name_of_methodNamed Bd.named Bd.method).1
  have X0 : Stand p l e room_1 s m #[(.long le), (.long st), (.long t1), (.long t2), (.long q), (.int fl)] below meth c s₁ [] 0 0 := Stand.of_body Bd
  have e0 : s₁.heap = h0 := by rw [← hhE, Bd.state]; rfl
  have N0 := Fr.nil n0
  show own_Go p e below (own_Post s (Q0 h0 n0) room_1.cells room_1.slots) (s₁.setTop (entryFrame m #[(.long le), (.long st), (.long t1), (.long t2), (.long q), (.int fl)] maxLocals))
  rw [ef_rm0_3_0]
  generalize hG : own_Post s (Q0 h0 n0) room_1.cells room_1.slots = G
  refine own_iload X0 hx (hb hby at_0) rfl 2 rfl ?_
  refine own_bipush X0 hx (hb hby at_2) (7 : Int32) rfl 4 rfl ?_
  refine own_iand X0 hx (hb hby at_4) 5 rfl ?_
  refine own_iconst X0 hx (hb hby at_5) (5 : Int32) rfl 6 rfl ?_
  refine own_irem X0 hx (hb hby at_6) (by decide) 7 rfl ?_
  generalize hy556 : ((fl &&& (7 : Int32)) % (5 : Int32)) = y556
  refine own_istore X0 hx (hb hby at_7) #[.val (.long le), .second, .val (.long st), .second, .val (.long t1), .second, .val (.long t2), .second, .val (.long q), .second, .val (.int fl), .val (.int y556), .unset, .unset, .unset, .unset, .unset, .unset, .unset, .unset, .unset] rfl 9 rfl ?_
  obtain rfl : y556 = 3 := hy556.symm.trans hmd
  refine own_iload X0 hx (hb hby at_9) rfl 11 rfl ?_
  refine own_bipush X0 hx (hb hby at_11) (8 : Int32) rfl 13 rfl ?_
  refine own_iand X0 hx (hb hby at_13) 14 rfl ?_
  refine own_ifY X0 hx (hb hby at_14) ((if0 _ _).trans (teq hgv).1) 21 ⟨by decide, by decide⟩ ?_
  refine own_iconst X0 hx (hb hby at_21) (0 : Int32) rfl 22 rfl ?_
  refine own_istore X0 hx (hb hby at_22) #[.val (.long le), .second, .val (.long st), .second, .val (.long t1), .second, .val (.long t2), .second, .val (.long q), .second, .val (.int fl), .val (.int (3 : Int32)), .val (.int (0 : Int32)), .unset, .unset, .unset, .unset, .unset, .unset, .unset, .unset] rfl 24 rfl ?_
  refine own_iload X0 hx (hb hby at_24) rfl 26 rfl ?_
  refine own_bipush X0 hx (hb hby at_26) (16 : Int32) rfl 28 rfl ?_
  refine own_iand X0 hx (hb hby at_28) 29 rfl ?_
  by_cases c557 : (fl &&& (16 : Int32)) = (0 : Int32)
  ·
    refine own_ifY X0 hx (hb hby at_29) ((if0 _ _).trans (teq c557).1) 36 ⟨by decide, by decide⟩ ?_
    refine own_iconst X0 hx (hb hby at_36) (0 : Int32) rfl 37 rfl ?_
    refine own_istore X0 hx (hb hby at_37) #[.val (.long le), .second, .val (.long st), .second, .val (.long t1), .second, .val (.long t2), .second, .val (.long q), .second, .val (.int fl), .val (.int (3 : Int32)), .val (.int (0 : Int32)), .val (.int (0 : Int32)), .unset, .unset, .unset, .unset, .unset, .unset, .unset] rfl 39 rfl ?_
    refine own_newO X0 hx hZ hown (own_w hw 0 rfl) (own_w hw 1 rfl) (own_w hw 2 rfl) e0 (hb hby at_39) (by decide) (by decide) 42 rfl (fun T558 h558 a558 g558 X558 e558 E558 A558 D558 => ?_)
    have ge559 : n0 ≤ a558 := by rw [g558]; exact Z0
    have Z560 : n0 ≤ h558.size := Nat.le_trans Z0 E558.1
    have O562 := O0.ext E558
    have F563 : Fld Z h558 a558 "com/example/causeway/causeway/server/HandoverWait" "leaseNanos" "J" (.long (0 : Int64)) := D558 (Or.inr (own_w hw 10 rfl)) (ty := .long) (by decide)
    have F564 : Fld Z h558 a558 "com/example/causeway/causeway/server/HandoverWait" "waitNanos" "J" (.long (0 : Int64)) := D558 (Or.inl (own_w hw 12 rfl)) (ty := .long) (by decide)
    have F565 : Fld Z h558 a558 "com/example/causeway/causeway/server/HandoverWait" "retryAfter" "J" (.long (0 : Int64)) := D558 (Or.inl (own_w hw 14 rfl)) (ty := .long) (by decide)
    have F566 : Fld Z h558 a558 "com/example/causeway/causeway/server/HandoverWait" "caughtUp" "Z" (.int (0 : Int32)) := D558 (Or.inl (own_w hw 21 rfl)) (ty := .boolean) (by decide)
    have F567 : Fld Z h558 a558 "com/example/causeway/causeway/server/HandoverWait" "caughtUpSince" "J" (.long (0 : Int64)) := D558 (Or.inl (own_w hw 23 rfl)) (ty := .long) (by decide)
    have F568 : Fld Z h558 a558 "com/example/causeway/causeway/server/HandoverWait" "led" "Z" (.int (0 : Int32)) := D558 (Or.inl (own_w hw 43 rfl)) (ty := .boolean) (by decide)
    have F569 : Fld Z h558 a558 "com/example/causeway/causeway/server/HandoverWait" "ledSince" "J" (.long (0 : Int64)) := D558 (Or.inl (own_w hw 45 rfl)) (ty := .long) (by decide)
    have F570 : Fld Z h558 a558 "com/example/causeway/causeway/server/HandoverWait" "ledUntil" "J" (.long (0 : Int64)) := D558 (Or.inl (own_w hw 47 rfl)) (ty := .long) (by decide)
    refine own_dup X558 hx (hb hby at_42) rfl 43 rfl ?_
    refine own_lloadN X558 hx (hb hby at_43) rfl 44 rfl ?_
    refine own_lloadN X558 hx (hb hby at_44) rfl 45 rfl ?_
    refine own_callI X558 hx hZ rfl hown (own_w hw 3 rfl) (own_w hw 4 rfl) (own_w hw 2 rfl) (own_w hw 5 rfl) (by decide) e558 (rm1 l Z a0 hw [] a558 le st h558 n0 Z560 ge559 ⟨A558, F563, F564, F565, F566, F567, F568, F569, F570⟩) (by rw [hml]; rfl) pd_0 (argsL := [(.long le), (.long st)]) rfl (rest := [(.ref a558)]) rfl (hb hby at_45) 1 (Nat.le_of_eq rfl) (by decide) (by decide) (by decide) (by decide) 48 rfl (fun T571 L571 v571 X571 hQ571 => ?_)
    obtain ⟨rfl, N571, K571, E571, F0_571, F1_571, F2_571, F3_571, F4_571, F5_571, F6_571, F7_571⟩ := hQ571
    have N572 := Fr.app N0 N571
    have O574 := O562.keep K571 (allS ge559 all0)
    have Z575 : n0 ≤ T571.heap.size := Nat.le_trans Z560 K571.1
    show own_Go p e below G (T571.setTop (mkF m 48 #[.val (.long le), .second, .val (.long st), .second, .val (.long t1), .second, .val (.long t2), .second, .val (.long q), .second, .val (.int fl), .val (.int (3 : Int32)), .val (.int (0 : Int32)), .val (.int (0 : Int32)), .unset, .unset, .unset, .unset, .unset, .unset, .unset] [(.ref a558)]))
    refine own_astore X571 hx (hb hby at_48) rfl #[.val (.long le), .second, .val (.long st), .second, .val (.long t1), .second, .val (.long t2), .second, .val (.long q), .second, .val (.int fl), .val (.int (3 : Int32)), .val (.int (0 : Int32)), .val (.int (0 : Int32)), .val (.ref a558), .unset, .unset, .unset, .unset, .unset, .unset] rfl 50 rfl ?_
    refine own_iload X571 hx (hb hby at_50) rfl 52 rfl ?_
    refine own_ifY X571 hx (hb hby at_52) ((if0 _ _).trans (teq (by decide)).1) 64 ⟨by decide, by decide⟩ ?_
    refine own_iload X571 hx (hb hby at_64) rfl 66 rfl ?_
    refine own_iconst X571 hx (hb hby at_66) (1 : Int32) rfl 67 rfl ?_
    refine own_icmpN X571 hx (hb hby at_67) (flt (by decide)).1 70 rfl ?_
    refine own_aload X571 hx (hb hby at_70) rfl rfl 72 rfl ?_
    refine own_lload X571 hx (hb hby at_72) rfl 74 rfl ?_
    refine own_callV X571 hx hZ hown (own_w hw 15 rfl) (own_w hw 16 rfl) (own_w hw 18 rfl) (notFace_of_selects (args := #[]) (mvT hZ (own_w hw 18 rfl))) (own_w hw 17 rfl) (own_w hw 2 rfl) (own_w hw 19 rfl) (by decide) (rfl : T571.heap = T571.heap) E571 (rm2 l Z a0 hw [] a558 t1 le le st (0 : Int32) (0 : Int64) (0 : Int32) (0 : Int64) (0 : Int64) T571.heap n0 Z575 ge559 ⟨E571, F0_571, F1_571, F2_571, F3_571, F4_571, F5_571, F6_571, F7_571⟩) (by rw [hml]; rfl) pd_3 (argsL := [(.long t1)]) rfl (rest := []) rfl (hb hby at_74) 0 (Nat.le_of_eq rfl) (by decide) (by decide) (by decide) (by decide) 77 rfl (fun T576 L576 v576 X576 hQ576 => ?_)
    have hQ576 : v576 = none ∧ Fr n0 L576 ∧ Keep T571.heap T576.heap [a558] ∧ own_HW Z T576.heap a558 le le st (1 : Int32) t1 (0 : Int32) (0 : Int64) (0 : Int64) := hQ576
    obtain ⟨rfl, N576, K576, E576, F0_576, F1_576, F2_576, F3_576, F4_576, F5_576, F6_576, F7_576⟩ := hQ576
    have N577 := Fr.app N572 N576
    have O579 := O574.keep K576 (allS ge559 all0)
    have Z580 : n0 ≤ T576.heap.size := Nat.le_trans Z575 K576.1
    show own_Go p e below G (T576.setTop (mkF m 77 #[.val (.long le), .second, .val (.long st), .second, .val (.long t1), .second, .val (.long t2), .second, .val (.long q), .second, .val (.int fl), .val (.int (3 : Int32)), .val (.int (0 : Int32)), .val (.int (0 : Int32)), .val (.ref a558), .unset, .unset, .unset, .unset, .unset, .unset] []))
    refine own_iload X576 hx (hb hby at_77) rfl 79 rfl ?_
    refine own_iconst X576 hx (hb hby at_79) (2 : Int32) rfl 80 rfl ?_
    refine own_icmpY X576 hx (hb hby at_80) (feq (by decide)).2 90 ⟨by decide, by decide⟩ ?_
    refine own_iload X576 hx (hb hby at_90) rfl 92 rfl ?_
    refine own_iconst X576 hx (hb hby at_92) (3 : Int32) rfl 93 rfl ?_
    refine own_icmpN X576 hx (hb hby at_93) (flt (by decide)).1 96 rfl ?_
    refine own_aload X576 hx (hb hby at_96) rfl rfl 98 rfl ?_
    refine own_callV X576 hx hZ hown (own_w hw 48 rfl) (own_w hw 49 rfl) (own_w hw 51 rfl) (notFace_of_selects (args := #[]) (mvT hZ (own_w hw 51 rfl))) (own_w hw 50 rfl) (own_w hw 2 rfl) (own_w hw 52 rfl) (by decide) (rfl : T576.heap = T576.heap) E576 (rm3 l Z a0 hw [] a558 le le st (1 : Int32) t1 (0 : Int32) (0 : Int64) (0 : Int64) T576.heap n0 Z580 ge559 ⟨E576, F0_576, F1_576, F2_576, F3_576, F4_576, F5_576, F6_576, F7_576⟩) (by rw [hml]; rfl) pd_4 (argsL := []) rfl (rest := []) rfl (hb hby at_98) 0 (Nat.le_of_eq rfl) (by decide) (by decide) (by decide) (by decide) 101 rfl (fun T581 L581 v581 X581 hQ581 => ?_)
    have hQ581 : v581 = none ∧ Fr n0 L581 ∧ Keep T576.heap T581.heap [a558] ∧ own_HW Z T581.heap a558 le le st (0 : Int32) t1 (0 : Int32) (0 : Int64) (0 : Int64) := hQ581
    obtain ⟨rfl, N581, K581, E581, F0_581, F1_581, F2_581, F3_581, F4_581, F5_581, F6_581, F7_581⟩ := hQ581
    have N582 := Fr.app N577 N581
    have O584 := O579.keep K581 (allS ge559 all0)
    have Z585 : n0 ≤ T581.heap.size := Nat.le_trans Z580 K581.1
    show own_Go p e below G (T581.setTop (mkF m 101 #[.val (.long le), .second, .val (.long st), .second, .val (.long t1), .second, .val (.long t2), .second, .val (.long q), .second, .val (.int fl), .val (.int (3 : Int32)), .val (.int (0 : Int32)), .val (.int (0 : Int32)), .val (.ref a558), .unset, .unset, .unset, .unset, .unset, .unset] []))
    refine own_iload X581 hx (hb hby at_101) rfl 103 rfl ?_
    refine own_iconst X581 hx (hb hby at_103) (4 : Int32) rfl 104 rfl ?_
    refine own_icmpY X581 hx (hb hby at_104) (feq (by decide)).2 114 ⟨by decide, by decide⟩ ?_
    refine own_iload X581 hx (hb hby at_114) rfl 116 rfl ?_
    refine own_ifY X581 hx (hb hby at_116) ((if0 _ _).trans (teq (by decide)).1) 125 ⟨by decide, by decide⟩ ?_
    refine own_iload X581 hx (hb hby at_125) rfl 127 rfl ?_
    refine own_iconst X581 hx (hb hby at_127) (1 : Int32) rfl 128 rfl ?_
    refine own_icmpN X581 hx (hb hby at_128) (feq (by decide)).1 131 rfl ?_
    refine own_iload X581 hx (hb hby at_131) rfl 133 rfl ?_
    refine own_iconst X581 hx (hb hby at_133) (2 : Int32) rfl 134 rfl ?_
    refine own_icmpN X581 hx (hb hby at_134) (feq (by decide)).1 137 rfl ?_
    refine own_iload X581 hx (hb hby at_137) rfl 139 rfl ?_
    refine own_iconst X581 hx (hb hby at_139) (4 : Int32) rfl 140 rfl ?_
    refine own_icmpY X581 hx (hb hby at_140) (feq (by decide)).2 147 ⟨by decide, by decide⟩ ?_
    refine own_iconst X581 hx (hb hby at_147) (0 : Int32) rfl 148 rfl ?_
    refine own_istore X581 hx (hb hby at_148) #[.val (.long le), .second, .val (.long st), .second, .val (.long t1), .second, .val (.long t2), .second, .val (.long q), .second, .val (.int fl), .val (.int (3 : Int32)), .val (.int (0 : Int32)), .val (.int (0 : Int32)), .val (.ref a558), .val (.int (0 : Int32)), .unset, .unset, .unset, .unset, .unset] rfl 150 rfl ?_
    refine own_iload X581 hx (hb hby at_150) rfl 152 rfl ?_
    refine own_iconst X581 hx (hb hby at_152) (4 : Int32) rfl 153 rfl ?_
    refine own_icmpY X581 hx (hb hby at_153) (feq (by decide)).2 161 ⟨by decide, by decide⟩ ?_
    refine own_lload X581 hx (hb hby at_161) rfl 163 rfl ?_
    refine own_lstore X581 hx (hb hby at_163) #[.val (.long le), .second, .val (.long st), .second, .val (.long t1), .second, .val (.long t2), .second, .val (.long q), .second, .val (.int fl), .val (.int (3 : Int32)), .val (.int (0 : Int32)), .val (.int (0 : Int32)), .val (.ref a558), .val (.int (0 : Int32)), .val (.long t1), .second, .unset, .unset, .unset] rfl 165 rfl ?_
    refine own_iload X581 hx (hb hby at_165) rfl 167 rfl ?_
    refine own_ifY X581 hx (hb hby at_167) ((if0 _ _).trans (teq (by decide)).1) 178 ⟨by decide, by decide⟩ ?_
    refine own_lloadN X581 hx (hb hby at_178) rfl 179 rfl ?_
    refine own_lstore X581 hx (hb hby at_179) #[.val (.long le), .second, .val (.long st), .second, .val (.long t1), .second, .val (.long t2), .second, .val (.long q), .second, .val (.int fl), .val (.int (3 : Int32)), .val (.int (0 : Int32)), .val (.int (0 : Int32)), .val (.ref a558), .val (.int (0 : Int32)), .val (.long t1), .second, .val (.long st), .second, .unset] rfl 181 rfl ?_
    suffices kj587 : ∀ u586 : Int32, u586 = own_due (0 : Int32) t1 le st q → own_Go p e below G (T581.setTop (mkF m 211 #[.val (.long le), .second, .val (.long st), .second, .val (.long t1), .second, .val (.long t2), .second, .val (.long q), .second, .val (.int fl), .val (.int (3 : Int32)), .val (.int (0 : Int32)), .val (.int (0 : Int32)), .val (.ref a558), .val (.int (0 : Int32)), .val (.long t1), .second, .val (.long st), .second, .unset] [(.int u586)])) by
      refine own_iload X581 hx (hb hby at_181) rfl 183 rfl ?_
      refine own_ifY X581 hx (hb hby at_183) ((if0 _ _).trans (teq (by decide)).1) 210 ⟨by decide, by decide⟩ ?_
      refine own_iconst X581 hx (hb hby at_210) (0 : Int32) rfl 211 rfl ?_
      exact kj587 (0 : Int32) (by simp [own_due, c557])
    intro u586 hu586
    refine own_istore X581 hx (hb hby at_211) #[.val (.long le), .second, .val (.long st), .second, .val (.long t1), .second, .val (.long t2), .second, .val (.long q), .second, .val (.int fl), .val (.int (3 : Int32)), .val (.int (0 : Int32)), .val (.int (0 : Int32)), .val (.ref a558), .val (.int (0 : Int32)), .val (.long t1), .second, .val (.long st), .second, .val (.int u586)] rfl 213 rfl ?_
    refine own_aload X581 hx (hb hby at_213) rfl rfl 215 rfl ?_
    refine own_lload X581 hx (hb hby at_215) rfl 217 rfl ?_
    refine own_callV X581 hx hZ hown (own_w hw 24 rfl) (own_w hw 25 rfl) (own_w hw 27 rfl) (notFace_of_selects (args := #[]) (mvT hZ (own_w hw 27 rfl))) (own_w hw 26 rfl) (own_w hw 2 rfl) (own_w hw 28 rfl) (by decide) (rfl : T581.heap = T581.heap) E581 (rm4 l Z a0 hw [] a558 q le le st (0 : Int32) t1 (0 : Int32) (0 : Int64) (0 : Int64) T581.heap n0 Z585 ge559 ⟨E581, F0_581, F1_581, F2_581, F3_581, F4_581, F5_581, F6_581, F7_581⟩) (by rw [hml]; rfl) pd_1 (argsL := [(.long q)]) rfl (rest := []) rfl (hb hby at_217) 0 (Nat.le_of_eq rfl) (by decide) (by decide) (by decide) (by decide) 220 rfl (fun T588 L588 v588 X588 hQ588 => ?_)
    obtain ⟨rfl, N588, e588⟩ := hQ588
    have N589 := Fr.app N582 N588
    show own_Go p e below G (T588.setTop (mkF m 220 #[.val (.long le), .second, .val (.long st), .second, .val (.long t1), .second, .val (.long t2), .second, .val (.long q), .second, .val (.int fl), .val (.int (3 : Int32)), .val (.int (0 : Int32)), .val (.int (0 : Int32)), .val (.ref a558), .val (.int (0 : Int32)), .val (.long t1), .second, .val (.long st), .second, .val (.int u586)] [(.int (own_due (0 : Int32) t1 le st q))]))
    refine own_iload X588 hx (hb hby at_220) rfl 222 rfl ?_
    refine own_icmpN X588 hx (hb hby at_222) (teq (by subst hu586; simp [own_due])).2 225 rfl ?_
    refine own_iconst X588 hx (hb hby at_225) (1 : Int32) rfl 226 rfl ?_
    refine own_goto X588 hx (hb hby at_226) 230 ⟨by decide, by decide⟩ ?_
    refine own_nreturn X588 hx Bd.notSynchronized hG Bd.returns (by simp) (hb hby at_230) (by decide) (by decide) ?_
    rw [e588]
    exact ⟨rfl, N589⟩
  ·
    refine own_ifN X0 hx (hb hby at_29) ((if0 _ _).trans (feq c557).1) 32 rfl ?_
    refine own_iconst X0 hx (hb hby at_32) (1 : Int32) rfl 33 rfl ?_
    refine own_goto X0 hx (hb hby at_33) 37 ⟨by decide, by decide⟩ ?_
    refine own_istore X0 hx (hb hby at_37) #[.val (.long le), .second, .val (.long st), .second, .val (.long t1), .second, .val (.long t2), .second, .val (.long q), .second, .val (.int fl), .val (.int (3 : Int32)), .val (.int (0 : Int32)), .val (.int (1 : Int32)), .unset, .unset, .unset, .unset, .unset, .unset, .unset] rfl 39 rfl ?_
    refine own_newO X0 hx hZ hown (own_w hw 0 rfl) (own_w hw 1 rfl) (own_w hw 2 rfl) e0 (hb hby at_39) (by decide) (by decide) 42 rfl (fun T590 h590 a590 g590 X590 e590 E590 A590 D590 => ?_)
    have ge591 : n0 ≤ a590 := by rw [g590]; exact Z0
    have Z592 : n0 ≤ h590.size := Nat.le_trans Z0 E590.1
    have O594 := O0.ext E590
    have F595 : Fld Z h590 a590 "com/example/causeway/causeway/server/HandoverWait" "leaseNanos" "J" (.long (0 : Int64)) := D590 (Or.inr (own_w hw 10 rfl)) (ty := .long) (by decide)
    have F596 : Fld Z h590 a590 "com/example/causeway/causeway/server/HandoverWait" "waitNanos" "J" (.long (0 : Int64)) := D590 (Or.inl (own_w hw 12 rfl)) (ty := .long) (by decide)
    have F597 : Fld Z h590 a590 "com/example/causeway/causeway/server/HandoverWait" "retryAfter" "J" (.long (0 : Int64)) := D590 (Or.inl (own_w hw 14 rfl)) (ty := .long) (by decide)
    have F598 : Fld Z h590 a590 "com/example/causeway/causeway/server/HandoverWait" "caughtUp" "Z" (.int (0 : Int32)) := D590 (Or.inl (own_w hw 21 rfl)) (ty := .boolean) (by decide)
    have F599 : Fld Z h590 a590 "com/example/causeway/causeway/server/HandoverWait" "caughtUpSince" "J" (.long (0 : Int64)) := D590 (Or.inl (own_w hw 23 rfl)) (ty := .long) (by decide)
    have F600 : Fld Z h590 a590 "com/example/causeway/causeway/server/HandoverWait" "led" "Z" (.int (0 : Int32)) := D590 (Or.inl (own_w hw 43 rfl)) (ty := .boolean) (by decide)
    have F601 : Fld Z h590 a590 "com/example/causeway/causeway/server/HandoverWait" "ledSince" "J" (.long (0 : Int64)) := D590 (Or.inl (own_w hw 45 rfl)) (ty := .long) (by decide)
    have F602 : Fld Z h590 a590 "com/example/causeway/causeway/server/HandoverWait" "ledUntil" "J" (.long (0 : Int64)) := D590 (Or.inl (own_w hw 47 rfl)) (ty := .long) (by decide)
    refine own_dup X590 hx (hb hby at_42) rfl 43 rfl ?_
    refine own_lloadN X590 hx (hb hby at_43) rfl 44 rfl ?_
    refine own_lloadN X590 hx (hb hby at_44) rfl 45 rfl ?_
    refine own_callI X590 hx hZ rfl hown (own_w hw 3 rfl) (own_w hw 4 rfl) (own_w hw 2 rfl) (own_w hw 5 rfl) (by decide) e590 (rm1 l Z a0 hw [] a590 le st h590 n0 Z592 ge591 ⟨A590, F595, F596, F597, F598, F599, F600, F601, F602⟩) (by rw [hml]; rfl) pd_0 (argsL := [(.long le), (.long st)]) rfl (rest := [(.ref a590)]) rfl (hb hby at_45) 1 (Nat.le_of_eq rfl) (by decide) (by decide) (by decide) (by decide) 48 rfl (fun T603 L603 v603 X603 hQ603 => ?_)
    obtain ⟨rfl, N603, K603, E603, F0_603, F1_603, F2_603, F3_603, F4_603, F5_603, F6_603, F7_603⟩ := hQ603
    have N604 := Fr.app N0 N603
    have O606 := O594.keep K603 (allS ge591 all0)
    have Z607 : n0 ≤ T603.heap.size := Nat.le_trans Z592 K603.1
    show own_Go p e below G (T603.setTop (mkF m 48 #[.val (.long le), .second, .val (.long st), .second, .val (.long t1), .second, .val (.long t2), .second, .val (.long q), .second, .val (.int fl), .val (.int (3 : Int32)), .val (.int (0 : Int32)), .val (.int (1 : Int32)), .unset, .unset, .unset, .unset, .unset, .unset, .unset] [(.ref a590)]))
    refine own_astore X603 hx (hb hby at_48) rfl #[.val (.long le), .second, .val (.long st), .second, .val (.long t1), .second, .val (.long t2), .second, .val (.long q), .second, .val (.int fl), .val (.int (3 : Int32)), .val (.int (0 : Int32)), .val (.int (1 : Int32)), .val (.ref a590), .unset, .unset, .unset, .unset, .unset, .unset] rfl 50 rfl ?_
    refine own_iload X603 hx (hb hby at_50) rfl 52 rfl ?_
    refine own_ifN X603 hx (hb hby at_52) ((if0 _ _).trans (feq (by decide)).1) 55 rfl ?_
    refine own_aload X603 hx (hb hby at_55) rfl rfl 57 rfl ?_
    refine own_iconst X603 hx (hb hby at_57) (1 : Int32) rfl 58 rfl ?_
    refine own_lload X603 hx (hb hby at_58) rfl 60 rfl ?_
    refine own_callV X603 hx hZ hown (own_w hw 37 rfl) (own_w hw 38 rfl) (own_w hw 40 rfl) (notFace_of_selects (args := #[]) (mvT hZ (own_w hw 40 rfl))) (own_w hw 39 rfl) (own_w hw 2 rfl) (own_w hw 41 rfl) (by decide) (rfl : T603.heap = T603.heap) E603 (rm6 l Z a0 hw [] a590 t1 le le st (0 : Int32) (0 : Int64) (0 : Int64) (0 : Int64) T603.heap n0 Z607 ge591 ⟨E603, F0_603, F1_603, F2_603, F3_603, F4_603, F5_603, F6_603, F7_603⟩) (by rw [hml]; rfl) pd_2 (argsL := [(.int (1 : Int32)), (.long t1)]) rfl (rest := []) rfl (hb hby at_60) 0 (Nat.le_of_eq rfl) (by decide) (by decide) (by decide) (by decide) 63 rfl (fun T608 L608 v608 X608 hQ608 => ?_)
    have hQ608 : v608 = some (.int (0 : Int32)) ∧ Fr n0 L608 ∧ Keep T603.heap T608.heap [a590] ∧ own_HW Z T608.heap a590 le le st (0 : Int32) (0 : Int64) (1 : Int32) t1 t1 := hQ608
    obtain ⟨rfl, N608, K608, E608, F0_608, F1_608, F2_608, F3_608, F4_608, F5_608, F6_608, F7_608⟩ := hQ608
    have N609 := Fr.app N604 N608
    have O611 := O606.keep K608 (allS ge591 all0)
    have Z612 : n0 ≤ T608.heap.size := Nat.le_trans Z607 K608.1
    show own_Go p e below G (T608.setTop (mkF m 63 #[.val (.long le), .second, .val (.long st), .second, .val (.long t1), .second, .val (.long t2), .second, .val (.long q), .second, .val (.int fl), .val (.int (3 : Int32)), .val (.int (0 : Int32)), .val (.int (1 : Int32)), .val (.ref a590), .unset, .unset, .unset, .unset, .unset, .unset] [(.int (0 : Int32))]))
    refine own_pop X608 hx (hb hby at_63) rfl 64 rfl ?_
    refine own_iload X608 hx (hb hby at_64) rfl 66 rfl ?_
    refine own_iconst X608 hx (hb hby at_66) (1 : Int32) rfl 67 rfl ?_
    refine own_icmpN X608 hx (hb hby at_67) (flt (by decide)).1 70 rfl ?_
    refine own_aload X608 hx (hb hby at_70) rfl rfl 72 rfl ?_
    refine own_lload X608 hx (hb hby at_72) rfl 74 rfl ?_
    refine own_callV X608 hx hZ hown (own_w hw 15 rfl) (own_w hw 16 rfl) (own_w hw 18 rfl) (notFace_of_selects (args := #[]) (mvT hZ (own_w hw 18 rfl))) (own_w hw 17 rfl) (own_w hw 2 rfl) (own_w hw 19 rfl) (by decide) (rfl : T608.heap = T608.heap) E608 (rm2 l Z a0 hw [] a590 t1 le le st (0 : Int32) (0 : Int64) (1 : Int32) t1 t1 T608.heap n0 Z612 ge591 ⟨E608, F0_608, F1_608, F2_608, F3_608, F4_608, F5_608, F6_608, F7_608⟩) (by rw [hml]; rfl) pd_3 (argsL := [(.long t1)]) rfl (rest := []) rfl (hb hby at_74) 0 (Nat.le_of_eq rfl) (by decide) (by decide) (by decide) (by decide) 77 rfl (fun T613 L613 v613 X613 hQ613 => ?_)
    have hQ613 : v613 = none ∧ Fr n0 L613 ∧ Keep T608.heap T613.heap [a590] ∧ own_HW Z T613.heap a590 le le st (1 : Int32) t1 (1 : Int32) t1 t1 := hQ613
    obtain ⟨rfl, N613, K613, E613, F0_613, F1_613, F2_613, F3_613, F4_613, F5_613, F6_613, F7_613⟩ := hQ613
    have N614 := Fr.app N609 N613
    have O616 := O611.keep K613 (allS ge591 all0)
    have Z617 : n0 ≤ T613.heap.size := Nat.le_trans Z612 K613.1
    show own_Go p e below G (T613.setTop (mkF m 77 #[.val (.long le), .second, .val (.long st), .second, .val (.long t1), .second, .val (.long t2), .second, .val (.long q), .second, .val (.int fl), .val (.int (3 : Int32)), .val (.int (0 : Int32)), .val (.int (1 : Int32)), .val (.ref a590), .unset, .unset, .unset, .unset, .unset, .unset] []))
    refine own_iload X613 hx (hb hby at_77) rfl 79 rfl ?_
    refine own_iconst X613 hx (hb hby at_79) (2 : Int32) rfl 80 rfl ?_
    refine own_icmpY X613 hx (hb hby at_80) (feq (by decide)).2 90 ⟨by decide, by decide⟩ ?_
    refine own_iload X613 hx (hb hby at_90) rfl 92 rfl ?_
    refine own_iconst X613 hx (hb hby at_92) (3 : Int32) rfl 93 rfl ?_
    refine own_icmpN X613 hx (hb hby at_93) (flt (by decide)).1 96 rfl ?_
    refine own_aload X613 hx (hb hby at_96) rfl rfl 98 rfl ?_
    refine own_callV X613 hx hZ hown (own_w hw 48 rfl) (own_w hw 49 rfl) (own_w hw 51 rfl) (notFace_of_selects (args := #[]) (mvT hZ (own_w hw 51 rfl))) (own_w hw 50 rfl) (own_w hw 2 rfl) (own_w hw 52 rfl) (by decide) (rfl : T613.heap = T613.heap) E613 (rm3 l Z a0 hw [] a590 le le st (1 : Int32) t1 (1 : Int32) t1 t1 T613.heap n0 Z617 ge591 ⟨E613, F0_613, F1_613, F2_613, F3_613, F4_613, F5_613, F6_613, F7_613⟩) (by rw [hml]; rfl) pd_4 (argsL := []) rfl (rest := []) rfl (hb hby at_98) 0 (Nat.le_of_eq rfl) (by decide) (by decide) (by decide) (by decide) 101 rfl (fun T618 L618 v618 X618 hQ618 => ?_)
    have hQ618 : v618 = none ∧ Fr n0 L618 ∧ Keep T613.heap T618.heap [a590] ∧ own_HW Z T618.heap a590 le le st (0 : Int32) t1 (1 : Int32) t1 t1 := hQ618
    obtain ⟨rfl, N618, K618, E618, F0_618, F1_618, F2_618, F3_618, F4_618, F5_618, F6_618, F7_618⟩ := hQ618
    have N619 := Fr.app N614 N618
    have O621 := O616.keep K618 (allS ge591 all0)
    have Z622 : n0 ≤ T618.heap.size := Nat.le_trans Z617 K618.1
    show own_Go p e below G (T618.setTop (mkF m 101 #[.val (.long le), .second, .val (.long st), .second, .val (.long t1), .second, .val (.long t2), .second, .val (.long q), .second, .val (.int fl), .val (.int (3 : Int32)), .val (.int (0 : Int32)), .val (.int (1 : Int32)), .val (.ref a590), .unset, .unset, .unset, .unset, .unset, .unset] []))
    refine own_iload X618 hx (hb hby at_101) rfl 103 rfl ?_
    refine own_iconst X618 hx (hb hby at_103) (4 : Int32) rfl 104 rfl ?_
    refine own_icmpY X618 hx (hb hby at_104) (feq (by decide)).2 114 ⟨by decide, by decide⟩ ?_
    refine own_iload X618 hx (hb hby at_114) rfl 116 rfl ?_
    refine own_ifY X618 hx (hb hby at_116) ((if0 _ _).trans (teq (by decide)).1) 125 ⟨by decide, by decide⟩ ?_
    refine own_iload X618 hx (hb hby at_125) rfl 127 rfl ?_
    refine own_iconst X618 hx (hb hby at_127) (1 : Int32) rfl 128 rfl ?_
    refine own_icmpN X618 hx (hb hby at_128) (feq (by decide)).1 131 rfl ?_
    refine own_iload X618 hx (hb hby at_131) rfl 133 rfl ?_
    refine own_iconst X618 hx (hb hby at_133) (2 : Int32) rfl 134 rfl ?_
    refine own_icmpN X618 hx (hb hby at_134) (feq (by decide)).1 137 rfl ?_
    refine own_iload X618 hx (hb hby at_137) rfl 139 rfl ?_
    refine own_iconst X618 hx (hb hby at_139) (4 : Int32) rfl 140 rfl ?_
    refine own_icmpY X618 hx (hb hby at_140) (feq (by decide)).2 147 ⟨by decide, by decide⟩ ?_
    refine own_iconst X618 hx (hb hby at_147) (0 : Int32) rfl 148 rfl ?_
    refine own_istore X618 hx (hb hby at_148) #[.val (.long le), .second, .val (.long st), .second, .val (.long t1), .second, .val (.long t2), .second, .val (.long q), .second, .val (.int fl), .val (.int (3 : Int32)), .val (.int (0 : Int32)), .val (.int (1 : Int32)), .val (.ref a590), .val (.int (0 : Int32)), .unset, .unset, .unset, .unset, .unset] rfl 150 rfl ?_
    refine own_iload X618 hx (hb hby at_150) rfl 152 rfl ?_
    refine own_iconst X618 hx (hb hby at_152) (4 : Int32) rfl 153 rfl ?_
    refine own_icmpY X618 hx (hb hby at_153) (feq (by decide)).2 161 ⟨by decide, by decide⟩ ?_
    refine own_lload X618 hx (hb hby at_161) rfl 163 rfl ?_
    refine own_lstore X618 hx (hb hby at_163) #[.val (.long le), .second, .val (.long st), .second, .val (.long t1), .second, .val (.long t2), .second, .val (.long q), .second, .val (.int fl), .val (.int (3 : Int32)), .val (.int (0 : Int32)), .val (.int (1 : Int32)), .val (.ref a590), .val (.int (0 : Int32)), .val (.long t1), .second, .unset, .unset, .unset] rfl 165 rfl ?_
    refine own_iload X618 hx (hb hby at_165) rfl 167 rfl ?_
    refine own_ifY X618 hx (hb hby at_167) ((if0 _ _).trans (teq (by decide)).1) 178 ⟨by decide, by decide⟩ ?_
    refine own_lloadN X618 hx (hb hby at_178) rfl 179 rfl ?_
    refine own_lstore X618 hx (hb hby at_179) #[.val (.long le), .second, .val (.long st), .second, .val (.long t1), .second, .val (.long t2), .second, .val (.long q), .second, .val (.int fl), .val (.int (3 : Int32)), .val (.int (0 : Int32)), .val (.int (1 : Int32)), .val (.ref a590), .val (.int (0 : Int32)), .val (.long t1), .second, .val (.long st), .second, .unset] rfl 181 rfl ?_
    suffices kj624 : ∀ u623 : Int32, u623 = own_due (0 : Int32) t1 le st q → own_Go p e below G (T618.setTop (mkF m 211 #[.val (.long le), .second, .val (.long st), .second, .val (.long t1), .second, .val (.long t2), .second, .val (.long q), .second, .val (.int fl), .val (.int (3 : Int32)), .val (.int (0 : Int32)), .val (.int (1 : Int32)), .val (.ref a590), .val (.int (0 : Int32)), .val (.long t1), .second, .val (.long st), .second, .unset] [(.int u623)])) by
      refine own_iload X618 hx (hb hby at_181) rfl 183 rfl ?_
      refine own_ifY X618 hx (hb hby at_183) ((if0 _ _).trans (teq (by decide)).1) 210 ⟨by decide, by decide⟩ ?_
      refine own_iconst X618 hx (hb hby at_210) (0 : Int32) rfl 211 rfl ?_
      exact kj624 (0 : Int32) (by simp [own_due, c557])
    intro u623 hu623
    refine own_istore X618 hx (hb hby at_211) #[.val (.long le), .second, .val (.long st), .second, .val (.long t1), .second, .val (.long t2), .second, .val (.long q), .second, .val (.int fl), .val (.int (3 : Int32)), .val (.int (0 : Int32)), .val (.int (1 : Int32)), .val (.ref a590), .val (.int (0 : Int32)), .val (.long t1), .second, .val (.long st), .second, .val (.int u623)] rfl 213 rfl ?_
    refine own_aload X618 hx (hb hby at_213) rfl rfl 215 rfl ?_
    refine own_lload X618 hx (hb hby at_215) rfl 217 rfl ?_
    refine own_callV X618 hx hZ hown (own_w hw 24 rfl) (own_w hw 25 rfl) (own_w hw 27 rfl) (notFace_of_selects (args := #[]) (mvT hZ (own_w hw 27 rfl))) (own_w hw 26 rfl) (own_w hw 2 rfl) (own_w hw 28 rfl) (by decide) (rfl : T618.heap = T618.heap) E618 (rm4 l Z a0 hw [] a590 q le le st (0 : Int32) t1 (1 : Int32) t1 t1 T618.heap n0 Z622 ge591 ⟨E618, F0_618, F1_618, F2_618, F3_618, F4_618, F5_618, F6_618, F7_618⟩) (by rw [hml]; rfl) pd_1 (argsL := [(.long q)]) rfl (rest := []) rfl (hb hby at_217) 0 (Nat.le_of_eq rfl) (by decide) (by decide) (by decide) (by decide) 220 rfl (fun T625 L625 v625 X625 hQ625 => ?_)
    obtain ⟨rfl, N625, e625⟩ := hQ625
    have N626 := Fr.app N619 N625
    show own_Go p e below G (T625.setTop (mkF m 220 #[.val (.long le), .second, .val (.long st), .second, .val (.long t1), .second, .val (.long t2), .second, .val (.long q), .second, .val (.int fl), .val (.int (3 : Int32)), .val (.int (0 : Int32)), .val (.int (1 : Int32)), .val (.ref a590), .val (.int (0 : Int32)), .val (.long t1), .second, .val (.long st), .second, .val (.int u623)] [(.int (own_due (0 : Int32) t1 le st q))]))
    refine own_iload X625 hx (hb hby at_220) rfl 222 rfl ?_
    refine own_icmpN X625 hx (hb hby at_222) (teq (by subst hu623; simp [own_due])).2 225 rfl ?_
    refine own_iconst X625 hx (hb hby at_225) (1 : Int32) rfl 226 rfl ?_
    refine own_goto X625 hx (hb hby at_226) 230 ⟨by decide, by decide⟩ ?_
    refine own_nreturn X625 hx Bd.notSynchronized hG Bd.returns (by simp) (hb hby at_230) (by decide) (by decide) ?_
    rw [e625]
    exact ⟨rfl, N626⟩
theorem ef_rm0_3_1 (m : MethodId) (x0 : Int64) (x1 : Int64) (x2 : Int64) (x3 : Int64) (x4 : Int64) (x5 : Int32) : entryFrame m #[(.long x0), (.long x1), (.long x2), (.long x3), (.long x4), (.int x5)] maxLocals = mkF m 0 #[.val (.long x0), .second, .val (.long x1), .second, .val (.long x2), .second, .val (.long x3), .second, .val (.long x4), .second, .val (.int x5), .unset, .unset, .unset, .unset, .unset, .unset, .unset, .unset, .unset, .unset] [] := by first | (simp [entryFrame, mkF, argsToLocals, Value.category, maxLocals]; done) | rfl
set_option maxRecDepth 65536 in
set_option maxHeartbeats 40000000 in
theorem rm0_3_1 (l : Launch) (Z : State) (a0 : Array Value) (hw : ∀ d ∈ tables_1, d.before a0 Z = true) (ws : List Jvm.Cond) (le st t1 t2 q : Int64) (fl : Int32) (h0 : Heap) (n0 : Nat) (Z0 : n0 ≤ h0.size) (O0 : Old Z n0 h0) (S0 : Sta Z Z.heap "com/example/causeway/causeway/server/HandoverWait" "RETRY_NANOS" "J" (.long 5000000000)) (hmd : (fl &&& (7 : Int32)) % (5 : Int32) = 3) (hgv : ¬ (fl &&& (8 : Int32)) = (0 : Int32)) :
    MetFree l x (head1 (Jvm.Cond.code x code maxLocals ret :: ws) room_1) (fun aR U => aR = #[(.long le), (.long st), (.long t1), (.long t2), (.long q), (.int fl)] ∧ Z.Warmed39 U.vm ∧ U.heap = h0) (fun _ _ _ _ _ => True) (fun _ U o U' => ∃ v L, o = .returned v ∧ Q0 h0 n0 v U'.heap L ∧ FrameEnd U o U' L room_1.cells room_1.slots) := by
  refine MetFree.of_bodySF (plainFor_of_name pn_0) hisR ?_
  intro p e s m args below meth c s₁ Bd hml0 hP hK
  obtain ⟨rfl, hZ, hhE⟩ := hP
  have hx := Bd.exec
  have hby := Bd.bytes
  have hml : c.maxLocals = 21 := hml0
  have hown : s.vm.findClass "com/example/causeway/causeway/server/HandoverWaitDuePinLaw" = some m.cls := findClass_of_methodNamed Bd.named
  have hnm := (name_of_methodNamed Bd.named Bd.method).1
  have X0 : Stand p l e room_1 s m #[(.long le), (.long st), (.long t1), (.long t2), (.long q), (.int fl)] below meth c s₁ [] 0 0 := Stand.of_body Bd
  have e0 : s₁.heap = h0 := by rw [← hhE, Bd.state]; rfl
  have N0 := Fr.nil n0
  show own_Go p e below (own_Post s (Q0 h0 n0) room_1.cells room_1.slots) (s₁.setTop (entryFrame m #[(.long le), (.long st), (.long t1), (.long t2), (.long q), (.int fl)] maxLocals))
  rw [ef_rm0_3_1]
  generalize hG : own_Post s (Q0 h0 n0) room_1.cells room_1.slots = G
  refine own_iload X0 hx (hb hby at_0) rfl 2 rfl ?_
  refine own_bipush X0 hx (hb hby at_2) (7 : Int32) rfl 4 rfl ?_
  refine own_iand X0 hx (hb hby at_4) 5 rfl ?_
  refine own_iconst X0 hx (hb hby at_5) (5 : Int32) rfl 6 rfl ?_
  refine own_irem X0 hx (hb hby at_6) (by decide) 7 rfl ?_
  generalize hy627 : ((fl &&& (7 : Int32)) % (5 : Int32)) = y627
  refine own_istore X0 hx (hb hby at_7) #[.val (.long le), .second, .val (.long st), .second, .val (.long t1), .second, .val (.long t2), .second, .val (.long q), .second, .val (.int fl), .val (.int y627), .unset, .unset, .unset, .unset, .unset, .unset, .unset, .unset, .unset] rfl 9 rfl ?_
  obtain rfl : y627 = 3 := hy627.symm.trans hmd
  refine own_iload X0 hx (hb hby at_9) rfl 11 rfl ?_
  refine own_bipush X0 hx (hb hby at_11) (8 : Int32) rfl 13 rfl ?_
  refine own_iand X0 hx (hb hby at_13) 14 rfl ?_
  refine own_ifN X0 hx (hb hby at_14) ((if0 _ _).trans (feq hgv).1) 17 rfl ?_
  refine own_iconst X0 hx (hb hby at_17) (1 : Int32) rfl 18 rfl ?_
  refine own_goto X0 hx (hb hby at_18) 22 ⟨by decide, by decide⟩ ?_
  refine own_istore X0 hx (hb hby at_22) #[.val (.long le), .second, .val (.long st), .second, .val (.long t1), .second, .val (.long t2), .second, .val (.long q), .second, .val (.int fl), .val (.int (3 : Int32)), .val (.int (1 : Int32)), .unset, .unset, .unset, .unset, .unset, .unset, .unset, .unset] rfl 24 rfl ?_
  refine own_iload X0 hx (hb hby at_24) rfl 26 rfl ?_
  refine own_bipush X0 hx (hb hby at_26) (16 : Int32) rfl 28 rfl ?_
  refine own_iand X0 hx (hb hby at_28) 29 rfl ?_
  by_cases c628 : (fl &&& (16 : Int32)) = (0 : Int32)
  ·
    refine own_ifY X0 hx (hb hby at_29) ((if0 _ _).trans (teq c628).1) 36 ⟨by decide, by decide⟩ ?_
    refine own_iconst X0 hx (hb hby at_36) (0 : Int32) rfl 37 rfl ?_
    refine own_istore X0 hx (hb hby at_37) #[.val (.long le), .second, .val (.long st), .second, .val (.long t1), .second, .val (.long t2), .second, .val (.long q), .second, .val (.int fl), .val (.int (3 : Int32)), .val (.int (1 : Int32)), .val (.int (0 : Int32)), .unset, .unset, .unset, .unset, .unset, .unset, .unset] rfl 39 rfl ?_
    refine own_newO X0 hx hZ hown (own_w hw 0 rfl) (own_w hw 1 rfl) (own_w hw 2 rfl) e0 (hb hby at_39) (by decide) (by decide) 42 rfl (fun T629 h629 a629 g629 X629 e629 E629 A629 D629 => ?_)
    have ge630 : n0 ≤ a629 := by rw [g629]; exact Z0
    have Z631 : n0 ≤ h629.size := Nat.le_trans Z0 E629.1
    have O633 := O0.ext E629
    have F634 : Fld Z h629 a629 "com/example/causeway/causeway/server/HandoverWait" "leaseNanos" "J" (.long (0 : Int64)) := D629 (Or.inr (own_w hw 10 rfl)) (ty := .long) (by decide)
    have F635 : Fld Z h629 a629 "com/example/causeway/causeway/server/HandoverWait" "waitNanos" "J" (.long (0 : Int64)) := D629 (Or.inl (own_w hw 12 rfl)) (ty := .long) (by decide)
    have F636 : Fld Z h629 a629 "com/example/causeway/causeway/server/HandoverWait" "retryAfter" "J" (.long (0 : Int64)) := D629 (Or.inl (own_w hw 14 rfl)) (ty := .long) (by decide)
    have F637 : Fld Z h629 a629 "com/example/causeway/causeway/server/HandoverWait" "caughtUp" "Z" (.int (0 : Int32)) := D629 (Or.inl (own_w hw 21 rfl)) (ty := .boolean) (by decide)
    have F638 : Fld Z h629 a629 "com/example/causeway/causeway/server/HandoverWait" "caughtUpSince" "J" (.long (0 : Int64)) := D629 (Or.inl (own_w hw 23 rfl)) (ty := .long) (by decide)
    have F639 : Fld Z h629 a629 "com/example/causeway/causeway/server/HandoverWait" "led" "Z" (.int (0 : Int32)) := D629 (Or.inl (own_w hw 43 rfl)) (ty := .boolean) (by decide)
    have F640 : Fld Z h629 a629 "com/example/causeway/causeway/server/HandoverWait" "ledSince" "J" (.long (0 : Int64)) := D629 (Or.inl (own_w hw 45 rfl)) (ty := .long) (by decide)
    have F641 : Fld Z h629 a629 "com/example/causeway/causeway/server/HandoverWait" "ledUntil" "J" (.long (0 : Int64)) := D629 (Or.inl (own_w hw 47 rfl)) (ty := .long) (by decide)
    refine own_dup X629 hx (hb hby at_42) rfl 43 rfl ?_
    refine own_lloadN X629 hx (hb hby at_43) rfl 44 rfl ?_
    refine own_lloadN X629 hx (hb hby at_44) rfl 45 rfl ?_
    refine own_callI X629 hx hZ rfl hown (own_w hw 3 rfl) (own_w hw 4 rfl) (own_w hw 2 rfl) (own_w hw 5 rfl) (by decide) e629 (rm1 l Z a0 hw [] a629 le st h629 n0 Z631 ge630 ⟨A629, F634, F635, F636, F637, F638, F639, F640, F641⟩) (by rw [hml]; rfl) pd_0 (argsL := [(.long le), (.long st)]) rfl (rest := [(.ref a629)]) rfl (hb hby at_45) 1 (Nat.le_of_eq rfl) (by decide) (by decide) (by decide) (by decide) 48 rfl (fun T642 L642 v642 X642 hQ642 => ?_)
    obtain ⟨rfl, N642, K642, E642, F0_642, F1_642, F2_642, F3_642, F4_642, F5_642, F6_642, F7_642⟩ := hQ642
    have N643 := Fr.app N0 N642
    have O645 := O633.keep K642 (allS ge630 all0)
    have Z646 : n0 ≤ T642.heap.size := Nat.le_trans Z631 K642.1
    show own_Go p e below G (T642.setTop (mkF m 48 #[.val (.long le), .second, .val (.long st), .second, .val (.long t1), .second, .val (.long t2), .second, .val (.long q), .second, .val (.int fl), .val (.int (3 : Int32)), .val (.int (1 : Int32)), .val (.int (0 : Int32)), .unset, .unset, .unset, .unset, .unset, .unset, .unset] [(.ref a629)]))
    refine own_astore X642 hx (hb hby at_48) rfl #[.val (.long le), .second, .val (.long st), .second, .val (.long t1), .second, .val (.long t2), .second, .val (.long q), .second, .val (.int fl), .val (.int (3 : Int32)), .val (.int (1 : Int32)), .val (.int (0 : Int32)), .val (.ref a629), .unset, .unset, .unset, .unset, .unset, .unset] rfl 50 rfl ?_
    refine own_iload X642 hx (hb hby at_50) rfl 52 rfl ?_
    refine own_ifY X642 hx (hb hby at_52) ((if0 _ _).trans (teq (by decide)).1) 64 ⟨by decide, by decide⟩ ?_
    refine own_iload X642 hx (hb hby at_64) rfl 66 rfl ?_
    refine own_iconst X642 hx (hb hby at_66) (1 : Int32) rfl 67 rfl ?_
    refine own_icmpN X642 hx (hb hby at_67) (flt (by decide)).1 70 rfl ?_
    refine own_aload X642 hx (hb hby at_70) rfl rfl 72 rfl ?_
    refine own_lload X642 hx (hb hby at_72) rfl 74 rfl ?_
    refine own_callV X642 hx hZ hown (own_w hw 15 rfl) (own_w hw 16 rfl) (own_w hw 18 rfl) (notFace_of_selects (args := #[]) (mvT hZ (own_w hw 18 rfl))) (own_w hw 17 rfl) (own_w hw 2 rfl) (own_w hw 19 rfl) (by decide) (rfl : T642.heap = T642.heap) E642 (rm2 l Z a0 hw [] a629 t1 le le st (0 : Int32) (0 : Int64) (0 : Int32) (0 : Int64) (0 : Int64) T642.heap n0 Z646 ge630 ⟨E642, F0_642, F1_642, F2_642, F3_642, F4_642, F5_642, F6_642, F7_642⟩) (by rw [hml]; rfl) pd_3 (argsL := [(.long t1)]) rfl (rest := []) rfl (hb hby at_74) 0 (Nat.le_of_eq rfl) (by decide) (by decide) (by decide) (by decide) 77 rfl (fun T647 L647 v647 X647 hQ647 => ?_)
    have hQ647 : v647 = none ∧ Fr n0 L647 ∧ Keep T642.heap T647.heap [a629] ∧ own_HW Z T647.heap a629 le le st (1 : Int32) t1 (0 : Int32) (0 : Int64) (0 : Int64) := hQ647
    obtain ⟨rfl, N647, K647, E647, F0_647, F1_647, F2_647, F3_647, F4_647, F5_647, F6_647, F7_647⟩ := hQ647
    have N648 := Fr.app N643 N647
    have O650 := O645.keep K647 (allS ge630 all0)
    have Z651 : n0 ≤ T647.heap.size := Nat.le_trans Z646 K647.1
    show own_Go p e below G (T647.setTop (mkF m 77 #[.val (.long le), .second, .val (.long st), .second, .val (.long t1), .second, .val (.long t2), .second, .val (.long q), .second, .val (.int fl), .val (.int (3 : Int32)), .val (.int (1 : Int32)), .val (.int (0 : Int32)), .val (.ref a629), .unset, .unset, .unset, .unset, .unset, .unset] []))
    refine own_iload X647 hx (hb hby at_77) rfl 79 rfl ?_
    refine own_iconst X647 hx (hb hby at_79) (2 : Int32) rfl 80 rfl ?_
    refine own_icmpY X647 hx (hb hby at_80) (feq (by decide)).2 90 ⟨by decide, by decide⟩ ?_
    refine own_iload X647 hx (hb hby at_90) rfl 92 rfl ?_
    refine own_iconst X647 hx (hb hby at_92) (3 : Int32) rfl 93 rfl ?_
    refine own_icmpN X647 hx (hb hby at_93) (flt (by decide)).1 96 rfl ?_
    refine own_aload X647 hx (hb hby at_96) rfl rfl 98 rfl ?_
    refine own_callV X647 hx hZ hown (own_w hw 48 rfl) (own_w hw 49 rfl) (own_w hw 51 rfl) (notFace_of_selects (args := #[]) (mvT hZ (own_w hw 51 rfl))) (own_w hw 50 rfl) (own_w hw 2 rfl) (own_w hw 52 rfl) (by decide) (rfl : T647.heap = T647.heap) E647 (rm3 l Z a0 hw [] a629 le le st (1 : Int32) t1 (0 : Int32) (0 : Int64) (0 : Int64) T647.heap n0 Z651 ge630 ⟨E647, F0_647, F1_647, F2_647, F3_647, F4_647, F5_647, F6_647, F7_647⟩) (by rw [hml]; rfl) pd_4 (argsL := []) rfl (rest := []) rfl (hb hby at_98) 0 (Nat.le_of_eq rfl) (by decide) (by decide) (by decide) (by decide) 101 rfl (fun T652 L652 v652 X652 hQ652 => ?_)
    have hQ652 : v652 = none ∧ Fr n0 L652 ∧ Keep T647.heap T652.heap [a629] ∧ own_HW Z T652.heap a629 le le st (0 : Int32) t1 (0 : Int32) (0 : Int64) (0 : Int64) := hQ652
    obtain ⟨rfl, N652, K652, E652, F0_652, F1_652, F2_652, F3_652, F4_652, F5_652, F6_652, F7_652⟩ := hQ652
    have N653 := Fr.app N648 N652
    have O655 := O650.keep K652 (allS ge630 all0)
    have Z656 : n0 ≤ T652.heap.size := Nat.le_trans Z651 K652.1
    show own_Go p e below G (T652.setTop (mkF m 101 #[.val (.long le), .second, .val (.long st), .second, .val (.long t1), .second, .val (.long t2), .second, .val (.long q), .second, .val (.int fl), .val (.int (3 : Int32)), .val (.int (1 : Int32)), .val (.int (0 : Int32)), .val (.ref a629), .unset, .unset, .unset, .unset, .unset, .unset] []))
    refine own_iload X652 hx (hb hby at_101) rfl 103 rfl ?_
    refine own_iconst X652 hx (hb hby at_103) (4 : Int32) rfl 104 rfl ?_
    refine own_icmpY X652 hx (hb hby at_104) (feq (by decide)).2 114 ⟨by decide, by decide⟩ ?_
    refine own_iload X652 hx (hb hby at_114) rfl 116 rfl ?_
    refine own_ifN X652 hx (hb hby at_116) ((if0 _ _).trans (feq (by decide)).1) 119 rfl ?_
    refine own_aload X652 hx (hb hby at_119) rfl rfl 121 rfl ?_
    refine own_lloadN X652 hx (hb hby at_121) rfl 122 rfl ?_
    refine own_callV X652 hx hZ hown (own_w hw 29 rfl) (own_w hw 30 rfl) (own_w hw 32 rfl) (notFace_of_selects (args := #[]) (mvT hZ (own_w hw 32 rfl))) (own_w hw 31 rfl) (own_w hw 2 rfl) (own_w hw 33 rfl) (by decide) (rfl : T652.heap = T652.heap) E652 (rm5 l Z a0 hw [] a629 st le le st (0 : Int32) t1 (0 : Int32) (0 : Int64) (0 : Int64) T652.heap n0 Z656 ge630 ⟨E652, F0_652, F1_652, F2_652, F3_652, F4_652, F5_652, F6_652, F7_652⟩ O655 S0) (by rw [hml]; rfl) pd_3 (argsL := [(.long st)]) rfl (rest := []) rfl (hb hby at_122) 0 (Nat.le_of_eq rfl) (by decide) (by decide) (by decide) (by decide) 125 rfl (fun T657 L657 v657 X657 hQ657 => ?_)
    have hQ657 : v657 = none ∧ Fr n0 L657 ∧ Keep T652.heap T657.heap [a629] ∧ own_HW Z T657.heap a629 le le (st + 5000000000) (0 : Int32) t1 (0 : Int32) (0 : Int64) (0 : Int64) := hQ657
    obtain ⟨rfl, N657, K657, E657, F0_657, F1_657, F2_657, F3_657, F4_657, F5_657, F6_657, F7_657⟩ := hQ657
    have N658 := Fr.app N653 N657
    have O660 := O655.keep K657 (allS ge630 all0)
    have Z661 : n0 ≤ T657.heap.size := Nat.le_trans Z656 K657.1
    show own_Go p e below G (T657.setTop (mkF m 125 #[.val (.long le), .second, .val (.long st), .second, .val (.long t1), .second, .val (.long t2), .second, .val (.long q), .second, .val (.int fl), .val (.int (3 : Int32)), .val (.int (1 : Int32)), .val (.int (0 : Int32)), .val (.ref a629), .unset, .unset, .unset, .unset, .unset, .unset] []))
    refine own_iload X657 hx (hb hby at_125) rfl 127 rfl ?_
    refine own_iconst X657 hx (hb hby at_127) (1 : Int32) rfl 128 rfl ?_
    refine own_icmpN X657 hx (hb hby at_128) (feq (by decide)).1 131 rfl ?_
    refine own_iload X657 hx (hb hby at_131) rfl 133 rfl ?_
    refine own_iconst X657 hx (hb hby at_133) (2 : Int32) rfl 134 rfl ?_
    refine own_icmpN X657 hx (hb hby at_134) (feq (by decide)).1 137 rfl ?_
    refine own_iload X657 hx (hb hby at_137) rfl 139 rfl ?_
    refine own_iconst X657 hx (hb hby at_139) (4 : Int32) rfl 140 rfl ?_
    refine own_icmpY X657 hx (hb hby at_140) (feq (by decide)).2 147 ⟨by decide, by decide⟩ ?_
    refine own_iconst X657 hx (hb hby at_147) (0 : Int32) rfl 148 rfl ?_
    refine own_istore X657 hx (hb hby at_148) #[.val (.long le), .second, .val (.long st), .second, .val (.long t1), .second, .val (.long t2), .second, .val (.long q), .second, .val (.int fl), .val (.int (3 : Int32)), .val (.int (1 : Int32)), .val (.int (0 : Int32)), .val (.ref a629), .val (.int (0 : Int32)), .unset, .unset, .unset, .unset, .unset] rfl 150 rfl ?_
    refine own_iload X657 hx (hb hby at_150) rfl 152 rfl ?_
    refine own_iconst X657 hx (hb hby at_152) (4 : Int32) rfl 153 rfl ?_
    refine own_icmpY X657 hx (hb hby at_153) (feq (by decide)).2 161 ⟨by decide, by decide⟩ ?_
    refine own_lload X657 hx (hb hby at_161) rfl 163 rfl ?_
    refine own_lstore X657 hx (hb hby at_163) #[.val (.long le), .second, .val (.long st), .second, .val (.long t1), .second, .val (.long t2), .second, .val (.long q), .second, .val (.int fl), .val (.int (3 : Int32)), .val (.int (1 : Int32)), .val (.int (0 : Int32)), .val (.ref a629), .val (.int (0 : Int32)), .val (.long t1), .second, .unset, .unset, .unset] rfl 165 rfl ?_
    refine own_iload X657 hx (hb hby at_165) rfl 167 rfl ?_
    refine own_ifN X657 hx (hb hby at_167) ((if0 _ _).trans (feq (by decide)).1) 170 rfl ?_
    refine own_lloadN X657 hx (hb hby at_170) rfl 171 rfl ?_
    refine own_ldc2Long X657 hx hown (mvT hZ (own_w hw 36 rfl)) (hb hby at_171) 174 rfl ?_
    refine own_ladd X657 hx (hb hby at_174) 175 rfl ?_
    refine own_goto X657 hx (hb hby at_175) 179 ⟨by decide, by decide⟩ ?_
    refine own_lstore X657 hx (hb hby at_179) #[.val (.long le), .second, .val (.long st), .second, .val (.long t1), .second, .val (.long t2), .second, .val (.long q), .second, .val (.int fl), .val (.int (3 : Int32)), .val (.int (1 : Int32)), .val (.int (0 : Int32)), .val (.ref a629), .val (.int (0 : Int32)), .val (.long t1), .second, .val (.long (st + (5000000000 : Int64))), .second, .unset] rfl 181 rfl ?_
    suffices kj663 : ∀ u662 : Int32, u662 = own_due (0 : Int32) t1 le (st + (5000000000 : Int64)) q → own_Go p e below G (T657.setTop (mkF m 211 #[.val (.long le), .second, .val (.long st), .second, .val (.long t1), .second, .val (.long t2), .second, .val (.long q), .second, .val (.int fl), .val (.int (3 : Int32)), .val (.int (1 : Int32)), .val (.int (0 : Int32)), .val (.ref a629), .val (.int (0 : Int32)), .val (.long t1), .second, .val (.long (st + (5000000000 : Int64))), .second, .unset] [(.int u662)])) by
      refine own_iload X657 hx (hb hby at_181) rfl 183 rfl ?_
      refine own_ifY X657 hx (hb hby at_183) ((if0 _ _).trans (teq (by decide)).1) 210 ⟨by decide, by decide⟩ ?_
      refine own_iconst X657 hx (hb hby at_210) (0 : Int32) rfl 211 rfl ?_
      exact kj663 (0 : Int32) (by simp [own_due, c628])
    intro u662 hu662
    refine own_istore X657 hx (hb hby at_211) #[.val (.long le), .second, .val (.long st), .second, .val (.long t1), .second, .val (.long t2), .second, .val (.long q), .second, .val (.int fl), .val (.int (3 : Int32)), .val (.int (1 : Int32)), .val (.int (0 : Int32)), .val (.ref a629), .val (.int (0 : Int32)), .val (.long t1), .second, .val (.long (st + (5000000000 : Int64))), .second, .val (.int u662)] rfl 213 rfl ?_
    refine own_aload X657 hx (hb hby at_213) rfl rfl 215 rfl ?_
    refine own_lload X657 hx (hb hby at_215) rfl 217 rfl ?_
    refine own_callV X657 hx hZ hown (own_w hw 24 rfl) (own_w hw 25 rfl) (own_w hw 27 rfl) (notFace_of_selects (args := #[]) (mvT hZ (own_w hw 27 rfl))) (own_w hw 26 rfl) (own_w hw 2 rfl) (own_w hw 28 rfl) (by decide) (rfl : T657.heap = T657.heap) E657 (rm4 l Z a0 hw [] a629 q le le (st + 5000000000) (0 : Int32) t1 (0 : Int32) (0 : Int64) (0 : Int64) T657.heap n0 Z661 ge630 ⟨E657, F0_657, F1_657, F2_657, F3_657, F4_657, F5_657, F6_657, F7_657⟩) (by rw [hml]; rfl) pd_1 (argsL := [(.long q)]) rfl (rest := []) rfl (hb hby at_217) 0 (Nat.le_of_eq rfl) (by decide) (by decide) (by decide) (by decide) 220 rfl (fun T664 L664 v664 X664 hQ664 => ?_)
    obtain ⟨rfl, N664, e664⟩ := hQ664
    have N665 := Fr.app N658 N664
    show own_Go p e below G (T664.setTop (mkF m 220 #[.val (.long le), .second, .val (.long st), .second, .val (.long t1), .second, .val (.long t2), .second, .val (.long q), .second, .val (.int fl), .val (.int (3 : Int32)), .val (.int (1 : Int32)), .val (.int (0 : Int32)), .val (.ref a629), .val (.int (0 : Int32)), .val (.long t1), .second, .val (.long (st + (5000000000 : Int64))), .second, .val (.int u662)] [(.int (own_due (0 : Int32) t1 le (st + 5000000000) q))]))
    refine own_iload X664 hx (hb hby at_220) rfl 222 rfl ?_
    refine own_icmpN X664 hx (hb hby at_222) (teq (by subst hu662; simp [own_due])).2 225 rfl ?_
    refine own_iconst X664 hx (hb hby at_225) (1 : Int32) rfl 226 rfl ?_
    refine own_goto X664 hx (hb hby at_226) 230 ⟨by decide, by decide⟩ ?_
    refine own_nreturn X664 hx Bd.notSynchronized hG Bd.returns (by simp) (hb hby at_230) (by decide) (by decide) ?_
    rw [e664]
    exact ⟨rfl, N665⟩
  ·
    refine own_ifN X0 hx (hb hby at_29) ((if0 _ _).trans (feq c628).1) 32 rfl ?_
    refine own_iconst X0 hx (hb hby at_32) (1 : Int32) rfl 33 rfl ?_
    refine own_goto X0 hx (hb hby at_33) 37 ⟨by decide, by decide⟩ ?_
    refine own_istore X0 hx (hb hby at_37) #[.val (.long le), .second, .val (.long st), .second, .val (.long t1), .second, .val (.long t2), .second, .val (.long q), .second, .val (.int fl), .val (.int (3 : Int32)), .val (.int (1 : Int32)), .val (.int (1 : Int32)), .unset, .unset, .unset, .unset, .unset, .unset, .unset] rfl 39 rfl ?_
    refine own_newO X0 hx hZ hown (own_w hw 0 rfl) (own_w hw 1 rfl) (own_w hw 2 rfl) e0 (hb hby at_39) (by decide) (by decide) 42 rfl (fun T666 h666 a666 g666 X666 e666 E666 A666 D666 => ?_)
    have ge667 : n0 ≤ a666 := by rw [g666]; exact Z0
    have Z668 : n0 ≤ h666.size := Nat.le_trans Z0 E666.1
    have O670 := O0.ext E666
    have F671 : Fld Z h666 a666 "com/example/causeway/causeway/server/HandoverWait" "leaseNanos" "J" (.long (0 : Int64)) := D666 (Or.inr (own_w hw 10 rfl)) (ty := .long) (by decide)
    have F672 : Fld Z h666 a666 "com/example/causeway/causeway/server/HandoverWait" "waitNanos" "J" (.long (0 : Int64)) := D666 (Or.inl (own_w hw 12 rfl)) (ty := .long) (by decide)
    have F673 : Fld Z h666 a666 "com/example/causeway/causeway/server/HandoverWait" "retryAfter" "J" (.long (0 : Int64)) := D666 (Or.inl (own_w hw 14 rfl)) (ty := .long) (by decide)
    have F674 : Fld Z h666 a666 "com/example/causeway/causeway/server/HandoverWait" "caughtUp" "Z" (.int (0 : Int32)) := D666 (Or.inl (own_w hw 21 rfl)) (ty := .boolean) (by decide)
    have F675 : Fld Z h666 a666 "com/example/causeway/causeway/server/HandoverWait" "caughtUpSince" "J" (.long (0 : Int64)) := D666 (Or.inl (own_w hw 23 rfl)) (ty := .long) (by decide)
    have F676 : Fld Z h666 a666 "com/example/causeway/causeway/server/HandoverWait" "led" "Z" (.int (0 : Int32)) := D666 (Or.inl (own_w hw 43 rfl)) (ty := .boolean) (by decide)
    have F677 : Fld Z h666 a666 "com/example/causeway/causeway/server/HandoverWait" "ledSince" "J" (.long (0 : Int64)) := D666 (Or.inl (own_w hw 45 rfl)) (ty := .long) (by decide)
    have F678 : Fld Z h666 a666 "com/example/causeway/causeway/server/HandoverWait" "ledUntil" "J" (.long (0 : Int64)) := D666 (Or.inl (own_w hw 47 rfl)) (ty := .long) (by decide)
    refine own_dup X666 hx (hb hby at_42) rfl 43 rfl ?_
    refine own_lloadN X666 hx (hb hby at_43) rfl 44 rfl ?_
    refine own_lloadN X666 hx (hb hby at_44) rfl 45 rfl ?_
    refine own_callI X666 hx hZ rfl hown (own_w hw 3 rfl) (own_w hw 4 rfl) (own_w hw 2 rfl) (own_w hw 5 rfl) (by decide) e666 (rm1 l Z a0 hw [] a666 le st h666 n0 Z668 ge667 ⟨A666, F671, F672, F673, F674, F675, F676, F677, F678⟩) (by rw [hml]; rfl) pd_0 (argsL := [(.long le), (.long st)]) rfl (rest := [(.ref a666)]) rfl (hb hby at_45) 1 (Nat.le_of_eq rfl) (by decide) (by decide) (by decide) (by decide) 48 rfl (fun T679 L679 v679 X679 hQ679 => ?_)
    obtain ⟨rfl, N679, K679, E679, F0_679, F1_679, F2_679, F3_679, F4_679, F5_679, F6_679, F7_679⟩ := hQ679
    have N680 := Fr.app N0 N679
    have O682 := O670.keep K679 (allS ge667 all0)
    have Z683 : n0 ≤ T679.heap.size := Nat.le_trans Z668 K679.1
    show own_Go p e below G (T679.setTop (mkF m 48 #[.val (.long le), .second, .val (.long st), .second, .val (.long t1), .second, .val (.long t2), .second, .val (.long q), .second, .val (.int fl), .val (.int (3 : Int32)), .val (.int (1 : Int32)), .val (.int (1 : Int32)), .unset, .unset, .unset, .unset, .unset, .unset, .unset] [(.ref a666)]))
    refine own_astore X679 hx (hb hby at_48) rfl #[.val (.long le), .second, .val (.long st), .second, .val (.long t1), .second, .val (.long t2), .second, .val (.long q), .second, .val (.int fl), .val (.int (3 : Int32)), .val (.int (1 : Int32)), .val (.int (1 : Int32)), .val (.ref a666), .unset, .unset, .unset, .unset, .unset, .unset] rfl 50 rfl ?_
    refine own_iload X679 hx (hb hby at_50) rfl 52 rfl ?_
    refine own_ifN X679 hx (hb hby at_52) ((if0 _ _).trans (feq (by decide)).1) 55 rfl ?_
    refine own_aload X679 hx (hb hby at_55) rfl rfl 57 rfl ?_
    refine own_iconst X679 hx (hb hby at_57) (1 : Int32) rfl 58 rfl ?_
    refine own_lload X679 hx (hb hby at_58) rfl 60 rfl ?_
    refine own_callV X679 hx hZ hown (own_w hw 37 rfl) (own_w hw 38 rfl) (own_w hw 40 rfl) (notFace_of_selects (args := #[]) (mvT hZ (own_w hw 40 rfl))) (own_w hw 39 rfl) (own_w hw 2 rfl) (own_w hw 41 rfl) (by decide) (rfl : T679.heap = T679.heap) E679 (rm6 l Z a0 hw [] a666 t1 le le st (0 : Int32) (0 : Int64) (0 : Int64) (0 : Int64) T679.heap n0 Z683 ge667 ⟨E679, F0_679, F1_679, F2_679, F3_679, F4_679, F5_679, F6_679, F7_679⟩) (by rw [hml]; rfl) pd_2 (argsL := [(.int (1 : Int32)), (.long t1)]) rfl (rest := []) rfl (hb hby at_60) 0 (Nat.le_of_eq rfl) (by decide) (by decide) (by decide) (by decide) 63 rfl (fun T684 L684 v684 X684 hQ684 => ?_)
    have hQ684 : v684 = some (.int (0 : Int32)) ∧ Fr n0 L684 ∧ Keep T679.heap T684.heap [a666] ∧ own_HW Z T684.heap a666 le le st (0 : Int32) (0 : Int64) (1 : Int32) t1 t1 := hQ684
    obtain ⟨rfl, N684, K684, E684, F0_684, F1_684, F2_684, F3_684, F4_684, F5_684, F6_684, F7_684⟩ := hQ684
    have N685 := Fr.app N680 N684
    have O687 := O682.keep K684 (allS ge667 all0)
    have Z688 : n0 ≤ T684.heap.size := Nat.le_trans Z683 K684.1
    show own_Go p e below G (T684.setTop (mkF m 63 #[.val (.long le), .second, .val (.long st), .second, .val (.long t1), .second, .val (.long t2), .second, .val (.long q), .second, .val (.int fl), .val (.int (3 : Int32)), .val (.int (1 : Int32)), .val (.int (1 : Int32)), .val (.ref a666), .unset, .unset, .unset, .unset, .unset, .unset] [(.int (0 : Int32))]))
    refine own_pop X684 hx (hb hby at_63) rfl 64 rfl ?_
    refine own_iload X684 hx (hb hby at_64) rfl 66 rfl ?_
    refine own_iconst X684 hx (hb hby at_66) (1 : Int32) rfl 67 rfl ?_
    refine own_icmpN X684 hx (hb hby at_67) (flt (by decide)).1 70 rfl ?_
    refine own_aload X684 hx (hb hby at_70) rfl rfl 72 rfl ?_
    refine own_lload X684 hx (hb hby at_72) rfl 74 rfl ?_
    refine own_callV X684 hx hZ hown (own_w hw 15 rfl) (own_w hw 16 rfl) (own_w hw 18 rfl) (notFace_of_selects (args := #[]) (mvT hZ (own_w hw 18 rfl))) (own_w hw 17 rfl) (own_w hw 2 rfl) (own_w hw 19 rfl) (by decide) (rfl : T684.heap = T684.heap) E684 (rm2 l Z a0 hw [] a666 t1 le le st (0 : Int32) (0 : Int64) (1 : Int32) t1 t1 T684.heap n0 Z688 ge667 ⟨E684, F0_684, F1_684, F2_684, F3_684, F4_684, F5_684, F6_684, F7_684⟩) (by rw [hml]; rfl) pd_3 (argsL := [(.long t1)]) rfl (rest := []) rfl (hb hby at_74) 0 (Nat.le_of_eq rfl) (by decide) (by decide) (by decide) (by decide) 77 rfl (fun T689 L689 v689 X689 hQ689 => ?_)
    have hQ689 : v689 = none ∧ Fr n0 L689 ∧ Keep T684.heap T689.heap [a666] ∧ own_HW Z T689.heap a666 le le st (1 : Int32) t1 (1 : Int32) t1 t1 := hQ689
    obtain ⟨rfl, N689, K689, E689, F0_689, F1_689, F2_689, F3_689, F4_689, F5_689, F6_689, F7_689⟩ := hQ689
    have N690 := Fr.app N685 N689
    have O692 := O687.keep K689 (allS ge667 all0)
    have Z693 : n0 ≤ T689.heap.size := Nat.le_trans Z688 K689.1
    show own_Go p e below G (T689.setTop (mkF m 77 #[.val (.long le), .second, .val (.long st), .second, .val (.long t1), .second, .val (.long t2), .second, .val (.long q), .second, .val (.int fl), .val (.int (3 : Int32)), .val (.int (1 : Int32)), .val (.int (1 : Int32)), .val (.ref a666), .unset, .unset, .unset, .unset, .unset, .unset] []))
    refine own_iload X689 hx (hb hby at_77) rfl 79 rfl ?_
    refine own_iconst X689 hx (hb hby at_79) (2 : Int32) rfl 80 rfl ?_
    refine own_icmpY X689 hx (hb hby at_80) (feq (by decide)).2 90 ⟨by decide, by decide⟩ ?_
    refine own_iload X689 hx (hb hby at_90) rfl 92 rfl ?_
    refine own_iconst X689 hx (hb hby at_92) (3 : Int32) rfl 93 rfl ?_
    refine own_icmpN X689 hx (hb hby at_93) (flt (by decide)).1 96 rfl ?_
    refine own_aload X689 hx (hb hby at_96) rfl rfl 98 rfl ?_
    refine own_callV X689 hx hZ hown (own_w hw 48 rfl) (own_w hw 49 rfl) (own_w hw 51 rfl) (notFace_of_selects (args := #[]) (mvT hZ (own_w hw 51 rfl))) (own_w hw 50 rfl) (own_w hw 2 rfl) (own_w hw 52 rfl) (by decide) (rfl : T689.heap = T689.heap) E689 (rm3 l Z a0 hw [] a666 le le st (1 : Int32) t1 (1 : Int32) t1 t1 T689.heap n0 Z693 ge667 ⟨E689, F0_689, F1_689, F2_689, F3_689, F4_689, F5_689, F6_689, F7_689⟩) (by rw [hml]; rfl) pd_4 (argsL := []) rfl (rest := []) rfl (hb hby at_98) 0 (Nat.le_of_eq rfl) (by decide) (by decide) (by decide) (by decide) 101 rfl (fun T694 L694 v694 X694 hQ694 => ?_)
    have hQ694 : v694 = none ∧ Fr n0 L694 ∧ Keep T689.heap T694.heap [a666] ∧ own_HW Z T694.heap a666 le le st (0 : Int32) t1 (1 : Int32) t1 t1 := hQ694
    obtain ⟨rfl, N694, K694, E694, F0_694, F1_694, F2_694, F3_694, F4_694, F5_694, F6_694, F7_694⟩ := hQ694
    have N695 := Fr.app N690 N694
    have O697 := O692.keep K694 (allS ge667 all0)
    have Z698 : n0 ≤ T694.heap.size := Nat.le_trans Z693 K694.1
    show own_Go p e below G (T694.setTop (mkF m 101 #[.val (.long le), .second, .val (.long st), .second, .val (.long t1), .second, .val (.long t2), .second, .val (.long q), .second, .val (.int fl), .val (.int (3 : Int32)), .val (.int (1 : Int32)), .val (.int (1 : Int32)), .val (.ref a666), .unset, .unset, .unset, .unset, .unset, .unset] []))
    refine own_iload X694 hx (hb hby at_101) rfl 103 rfl ?_
    refine own_iconst X694 hx (hb hby at_103) (4 : Int32) rfl 104 rfl ?_
    refine own_icmpY X694 hx (hb hby at_104) (feq (by decide)).2 114 ⟨by decide, by decide⟩ ?_
    refine own_iload X694 hx (hb hby at_114) rfl 116 rfl ?_
    refine own_ifN X694 hx (hb hby at_116) ((if0 _ _).trans (feq (by decide)).1) 119 rfl ?_
    refine own_aload X694 hx (hb hby at_119) rfl rfl 121 rfl ?_
    refine own_lloadN X694 hx (hb hby at_121) rfl 122 rfl ?_
    refine own_callV X694 hx hZ hown (own_w hw 29 rfl) (own_w hw 30 rfl) (own_w hw 32 rfl) (notFace_of_selects (args := #[]) (mvT hZ (own_w hw 32 rfl))) (own_w hw 31 rfl) (own_w hw 2 rfl) (own_w hw 33 rfl) (by decide) (rfl : T694.heap = T694.heap) E694 (rm5 l Z a0 hw [] a666 st le le st (0 : Int32) t1 (1 : Int32) t1 t1 T694.heap n0 Z698 ge667 ⟨E694, F0_694, F1_694, F2_694, F3_694, F4_694, F5_694, F6_694, F7_694⟩ O697 S0) (by rw [hml]; rfl) pd_3 (argsL := [(.long st)]) rfl (rest := []) rfl (hb hby at_122) 0 (Nat.le_of_eq rfl) (by decide) (by decide) (by decide) (by decide) 125 rfl (fun T699 L699 v699 X699 hQ699 => ?_)
    have hQ699 : v699 = none ∧ Fr n0 L699 ∧ Keep T694.heap T699.heap [a666] ∧ own_HW Z T699.heap a666 le le (st + 5000000000) (0 : Int32) t1 (1 : Int32) t1 t1 := hQ699
    obtain ⟨rfl, N699, K699, E699, F0_699, F1_699, F2_699, F3_699, F4_699, F5_699, F6_699, F7_699⟩ := hQ699
    have N700 := Fr.app N695 N699
    have O702 := O697.keep K699 (allS ge667 all0)
    have Z703 : n0 ≤ T699.heap.size := Nat.le_trans Z698 K699.1
    show own_Go p e below G (T699.setTop (mkF m 125 #[.val (.long le), .second, .val (.long st), .second, .val (.long t1), .second, .val (.long t2), .second, .val (.long q), .second, .val (.int fl), .val (.int (3 : Int32)), .val (.int (1 : Int32)), .val (.int (1 : Int32)), .val (.ref a666), .unset, .unset, .unset, .unset, .unset, .unset] []))
    refine own_iload X699 hx (hb hby at_125) rfl 127 rfl ?_
    refine own_iconst X699 hx (hb hby at_127) (1 : Int32) rfl 128 rfl ?_
    refine own_icmpN X699 hx (hb hby at_128) (feq (by decide)).1 131 rfl ?_
    refine own_iload X699 hx (hb hby at_131) rfl 133 rfl ?_
    refine own_iconst X699 hx (hb hby at_133) (2 : Int32) rfl 134 rfl ?_
    refine own_icmpN X699 hx (hb hby at_134) (feq (by decide)).1 137 rfl ?_
    refine own_iload X699 hx (hb hby at_137) rfl 139 rfl ?_
    refine own_iconst X699 hx (hb hby at_139) (4 : Int32) rfl 140 rfl ?_
    refine own_icmpY X699 hx (hb hby at_140) (feq (by decide)).2 147 ⟨by decide, by decide⟩ ?_
    refine own_iconst X699 hx (hb hby at_147) (0 : Int32) rfl 148 rfl ?_
    refine own_istore X699 hx (hb hby at_148) #[.val (.long le), .second, .val (.long st), .second, .val (.long t1), .second, .val (.long t2), .second, .val (.long q), .second, .val (.int fl), .val (.int (3 : Int32)), .val (.int (1 : Int32)), .val (.int (1 : Int32)), .val (.ref a666), .val (.int (0 : Int32)), .unset, .unset, .unset, .unset, .unset] rfl 150 rfl ?_
    refine own_iload X699 hx (hb hby at_150) rfl 152 rfl ?_
    refine own_iconst X699 hx (hb hby at_152) (4 : Int32) rfl 153 rfl ?_
    refine own_icmpY X699 hx (hb hby at_153) (feq (by decide)).2 161 ⟨by decide, by decide⟩ ?_
    refine own_lload X699 hx (hb hby at_161) rfl 163 rfl ?_
    refine own_lstore X699 hx (hb hby at_163) #[.val (.long le), .second, .val (.long st), .second, .val (.long t1), .second, .val (.long t2), .second, .val (.long q), .second, .val (.int fl), .val (.int (3 : Int32)), .val (.int (1 : Int32)), .val (.int (1 : Int32)), .val (.ref a666), .val (.int (0 : Int32)), .val (.long t1), .second, .unset, .unset, .unset] rfl 165 rfl ?_
    refine own_iload X699 hx (hb hby at_165) rfl 167 rfl ?_
    refine own_ifN X699 hx (hb hby at_167) ((if0 _ _).trans (feq (by decide)).1) 170 rfl ?_
    refine own_lloadN X699 hx (hb hby at_170) rfl 171 rfl ?_
    refine own_ldc2Long X699 hx hown (mvT hZ (own_w hw 36 rfl)) (hb hby at_171) 174 rfl ?_
    refine own_ladd X699 hx (hb hby at_174) 175 rfl ?_
    refine own_goto X699 hx (hb hby at_175) 179 ⟨by decide, by decide⟩ ?_
    refine own_lstore X699 hx (hb hby at_179) #[.val (.long le), .second, .val (.long st), .second, .val (.long t1), .second, .val (.long t2), .second, .val (.long q), .second, .val (.int fl), .val (.int (3 : Int32)), .val (.int (1 : Int32)), .val (.int (1 : Int32)), .val (.ref a666), .val (.int (0 : Int32)), .val (.long t1), .second, .val (.long (st + (5000000000 : Int64))), .second, .unset] rfl 181 rfl ?_
    suffices kj705 : ∀ u704 : Int32, u704 = own_due (0 : Int32) t1 le (st + (5000000000 : Int64)) q → own_Go p e below G (T699.setTop (mkF m 211 #[.val (.long le), .second, .val (.long st), .second, .val (.long t1), .second, .val (.long t2), .second, .val (.long q), .second, .val (.int fl), .val (.int (3 : Int32)), .val (.int (1 : Int32)), .val (.int (1 : Int32)), .val (.ref a666), .val (.int (0 : Int32)), .val (.long t1), .second, .val (.long (st + (5000000000 : Int64))), .second, .unset] [(.int u704)])) by
      refine own_iload X699 hx (hb hby at_181) rfl 183 rfl ?_
      refine own_ifY X699 hx (hb hby at_183) ((if0 _ _).trans (teq (by decide)).1) 210 ⟨by decide, by decide⟩ ?_
      refine own_iconst X699 hx (hb hby at_210) (0 : Int32) rfl 211 rfl ?_
      exact kj705 (0 : Int32) (by simp [own_due, c628])
    intro u704 hu704
    refine own_istore X699 hx (hb hby at_211) #[.val (.long le), .second, .val (.long st), .second, .val (.long t1), .second, .val (.long t2), .second, .val (.long q), .second, .val (.int fl), .val (.int (3 : Int32)), .val (.int (1 : Int32)), .val (.int (1 : Int32)), .val (.ref a666), .val (.int (0 : Int32)), .val (.long t1), .second, .val (.long (st + (5000000000 : Int64))), .second, .val (.int u704)] rfl 213 rfl ?_
    refine own_aload X699 hx (hb hby at_213) rfl rfl 215 rfl ?_
    refine own_lload X699 hx (hb hby at_215) rfl 217 rfl ?_
    refine own_callV X699 hx hZ hown (own_w hw 24 rfl) (own_w hw 25 rfl) (own_w hw 27 rfl) (notFace_of_selects (args := #[]) (mvT hZ (own_w hw 27 rfl))) (own_w hw 26 rfl) (own_w hw 2 rfl) (own_w hw 28 rfl) (by decide) (rfl : T699.heap = T699.heap) E699 (rm4 l Z a0 hw [] a666 q le le (st + 5000000000) (0 : Int32) t1 (1 : Int32) t1 t1 T699.heap n0 Z703 ge667 ⟨E699, F0_699, F1_699, F2_699, F3_699, F4_699, F5_699, F6_699, F7_699⟩) (by rw [hml]; rfl) pd_1 (argsL := [(.long q)]) rfl (rest := []) rfl (hb hby at_217) 0 (Nat.le_of_eq rfl) (by decide) (by decide) (by decide) (by decide) 220 rfl (fun T706 L706 v706 X706 hQ706 => ?_)
    obtain ⟨rfl, N706, e706⟩ := hQ706
    have N707 := Fr.app N700 N706
    show own_Go p e below G (T706.setTop (mkF m 220 #[.val (.long le), .second, .val (.long st), .second, .val (.long t1), .second, .val (.long t2), .second, .val (.long q), .second, .val (.int fl), .val (.int (3 : Int32)), .val (.int (1 : Int32)), .val (.int (1 : Int32)), .val (.ref a666), .val (.int (0 : Int32)), .val (.long t1), .second, .val (.long (st + (5000000000 : Int64))), .second, .val (.int u704)] [(.int (own_due (0 : Int32) t1 le (st + 5000000000) q))]))
    refine own_iload X706 hx (hb hby at_220) rfl 222 rfl ?_
    refine own_icmpN X706 hx (hb hby at_222) (teq (by subst hu704; simp [own_due])).2 225 rfl ?_
    refine own_iconst X706 hx (hb hby at_225) (1 : Int32) rfl 226 rfl ?_
    refine own_goto X706 hx (hb hby at_226) 230 ⟨by decide, by decide⟩ ?_
    refine own_nreturn X706 hx Bd.notSynchronized hG Bd.returns (by simp) (hb hby at_230) (by decide) (by decide) ?_
    rw [e706]
    exact ⟨rfl, N707⟩
theorem ef_rm0_4_0 (m : MethodId) (x0 : Int64) (x1 : Int64) (x2 : Int64) (x3 : Int64) (x4 : Int64) (x5 : Int32) : entryFrame m #[(.long x0), (.long x1), (.long x2), (.long x3), (.long x4), (.int x5)] maxLocals = mkF m 0 #[.val (.long x0), .second, .val (.long x1), .second, .val (.long x2), .second, .val (.long x3), .second, .val (.long x4), .second, .val (.int x5), .unset, .unset, .unset, .unset, .unset, .unset, .unset, .unset, .unset, .unset] [] := by first | (simp [entryFrame, mkF, argsToLocals, Value.category, maxLocals]; done) | rfl
set_option maxRecDepth 65536 in
set_option maxHeartbeats 40000000 in
theorem rm0_4_0 (l : Launch) (Z : State) (a0 : Array Value) (hw : ∀ d ∈ tables_1, d.before a0 Z = true) (ws : List Jvm.Cond) (le st t1 t2 q : Int64) (fl : Int32) (h0 : Heap) (n0 : Nat) (Z0 : n0 ≤ h0.size) (O0 : Old Z n0 h0) (S0 : Sta Z Z.heap "com/example/causeway/causeway/server/HandoverWait" "RETRY_NANOS" "J" (.long 5000000000)) (hmd : (fl &&& (7 : Int32)) % (5 : Int32) = 4) (hgv : (fl &&& (8 : Int32)) = (0 : Int32)) :
    MetFree l x (head1 (Jvm.Cond.code x code maxLocals ret :: ws) room_1) (fun aR U => aR = #[(.long le), (.long st), (.long t1), (.long t2), (.long q), (.int fl)] ∧ Z.Warmed39 U.vm ∧ U.heap = h0) (fun _ _ _ _ _ => True) (fun _ U o U' => ∃ v L, o = .returned v ∧ Q0 h0 n0 v U'.heap L ∧ FrameEnd U o U' L room_1.cells room_1.slots) := by
  refine MetFree.of_bodySF (plainFor_of_name pn_0) hisR ?_
  intro p e s m args below meth c s₁ Bd hml0 hP hK
  obtain ⟨rfl, hZ, hhE⟩ := hP
  have hx := Bd.exec
  have hby := Bd.bytes
  have hml : c.maxLocals = 21 := hml0
  have hown : s.vm.findClass "com/example/causeway/causeway/server/HandoverWaitDuePinLaw" = some m.cls := findClass_of_methodNamed Bd.named
  have hnm := (name_of_methodNamed Bd.named Bd.method).1
  have X0 : Stand p l e room_1 s m #[(.long le), (.long st), (.long t1), (.long t2), (.long q), (.int fl)] below meth c s₁ [] 0 0 := Stand.of_body Bd
  have e0 : s₁.heap = h0 := by rw [← hhE, Bd.state]; rfl
  have N0 := Fr.nil n0
  show own_Go p e below (own_Post s (Q0 h0 n0) room_1.cells room_1.slots) (s₁.setTop (entryFrame m #[(.long le), (.long st), (.long t1), (.long t2), (.long q), (.int fl)] maxLocals))
  rw [ef_rm0_4_0]
  generalize hG : own_Post s (Q0 h0 n0) room_1.cells room_1.slots = G
  refine own_iload X0 hx (hb hby at_0) rfl 2 rfl ?_
  refine own_bipush X0 hx (hb hby at_2) (7 : Int32) rfl 4 rfl ?_
  refine own_iand X0 hx (hb hby at_4) 5 rfl ?_
  refine own_iconst X0 hx (hb hby at_5) (5 : Int32) rfl 6 rfl ?_
  refine own_irem X0 hx (hb hby at_6) (by decide) 7 rfl ?_
  generalize hy708 : ((fl &&& (7 : Int32)) % (5 : Int32)) = y708
  refine own_istore X0 hx (hb hby at_7) #[.val (.long le), .second, .val (.long st), .second, .val (.long t1), .second, .val (.long t2), .second, .val (.long q), .second, .val (.int fl), .val (.int y708), .unset, .unset, .unset, .unset, .unset, .unset, .unset, .unset, .unset] rfl 9 rfl ?_
  obtain rfl : y708 = 4 := hy708.symm.trans hmd
  refine own_iload X0 hx (hb hby at_9) rfl 11 rfl ?_
  refine own_bipush X0 hx (hb hby at_11) (8 : Int32) rfl 13 rfl ?_
  refine own_iand X0 hx (hb hby at_13) 14 rfl ?_
  refine own_ifY X0 hx (hb hby at_14) ((if0 _ _).trans (teq hgv).1) 21 ⟨by decide, by decide⟩ ?_
  refine own_iconst X0 hx (hb hby at_21) (0 : Int32) rfl 22 rfl ?_
  refine own_istore X0 hx (hb hby at_22) #[.val (.long le), .second, .val (.long st), .second, .val (.long t1), .second, .val (.long t2), .second, .val (.long q), .second, .val (.int fl), .val (.int (4 : Int32)), .val (.int (0 : Int32)), .unset, .unset, .unset, .unset, .unset, .unset, .unset, .unset] rfl 24 rfl ?_
  refine own_iload X0 hx (hb hby at_24) rfl 26 rfl ?_
  refine own_bipush X0 hx (hb hby at_26) (16 : Int32) rfl 28 rfl ?_
  refine own_iand X0 hx (hb hby at_28) 29 rfl ?_
  by_cases c709 : (fl &&& (16 : Int32)) = (0 : Int32)
  ·
    refine own_ifY X0 hx (hb hby at_29) ((if0 _ _).trans (teq c709).1) 36 ⟨by decide, by decide⟩ ?_
    refine own_iconst X0 hx (hb hby at_36) (0 : Int32) rfl 37 rfl ?_
    refine own_istore X0 hx (hb hby at_37) #[.val (.long le), .second, .val (.long st), .second, .val (.long t1), .second, .val (.long t2), .second, .val (.long q), .second, .val (.int fl), .val (.int (4 : Int32)), .val (.int (0 : Int32)), .val (.int (0 : Int32)), .unset, .unset, .unset, .unset, .unset, .unset, .unset] rfl 39 rfl ?_
    refine own_newO X0 hx hZ hown (own_w hw 0 rfl) (own_w hw 1 rfl) (own_w hw 2 rfl) e0 (hb hby at_39) (by decide) (by decide) 42 rfl (fun T710 h710 a710 g710 X710 e710 E710 A710 D710 => ?_)
    have ge711 : n0 ≤ a710 := by rw [g710]; exact Z0
    have Z712 : n0 ≤ h710.size := Nat.le_trans Z0 E710.1
    have O714 := O0.ext E710
    have F715 : Fld Z h710 a710 "com/example/causeway/causeway/server/HandoverWait" "leaseNanos" "J" (.long (0 : Int64)) := D710 (Or.inr (own_w hw 10 rfl)) (ty := .long) (by decide)
    have F716 : Fld Z h710 a710 "com/example/causeway/causeway/server/HandoverWait" "waitNanos" "J" (.long (0 : Int64)) := D710 (Or.inl (own_w hw 12 rfl)) (ty := .long) (by decide)
    have F717 : Fld Z h710 a710 "com/example/causeway/causeway/server/HandoverWait" "retryAfter" "J" (.long (0 : Int64)) := D710 (Or.inl (own_w hw 14 rfl)) (ty := .long) (by decide)
    have F718 : Fld Z h710 a710 "com/example/causeway/causeway/server/HandoverWait" "caughtUp" "Z" (.int (0 : Int32)) := D710 (Or.inl (own_w hw 21 rfl)) (ty := .boolean) (by decide)
    have F719 : Fld Z h710 a710 "com/example/causeway/causeway/server/HandoverWait" "caughtUpSince" "J" (.long (0 : Int64)) := D710 (Or.inl (own_w hw 23 rfl)) (ty := .long) (by decide)
    have F720 : Fld Z h710 a710 "com/example/causeway/causeway/server/HandoverWait" "led" "Z" (.int (0 : Int32)) := D710 (Or.inl (own_w hw 43 rfl)) (ty := .boolean) (by decide)
    have F721 : Fld Z h710 a710 "com/example/causeway/causeway/server/HandoverWait" "ledSince" "J" (.long (0 : Int64)) := D710 (Or.inl (own_w hw 45 rfl)) (ty := .long) (by decide)
    have F722 : Fld Z h710 a710 "com/example/causeway/causeway/server/HandoverWait" "ledUntil" "J" (.long (0 : Int64)) := D710 (Or.inl (own_w hw 47 rfl)) (ty := .long) (by decide)
    refine own_dup X710 hx (hb hby at_42) rfl 43 rfl ?_
    refine own_lloadN X710 hx (hb hby at_43) rfl 44 rfl ?_
    refine own_lloadN X710 hx (hb hby at_44) rfl 45 rfl ?_
    refine own_callI X710 hx hZ rfl hown (own_w hw 3 rfl) (own_w hw 4 rfl) (own_w hw 2 rfl) (own_w hw 5 rfl) (by decide) e710 (rm1 l Z a0 hw [] a710 le st h710 n0 Z712 ge711 ⟨A710, F715, F716, F717, F718, F719, F720, F721, F722⟩) (by rw [hml]; rfl) pd_0 (argsL := [(.long le), (.long st)]) rfl (rest := [(.ref a710)]) rfl (hb hby at_45) 1 (Nat.le_of_eq rfl) (by decide) (by decide) (by decide) (by decide) 48 rfl (fun T723 L723 v723 X723 hQ723 => ?_)
    obtain ⟨rfl, N723, K723, E723, F0_723, F1_723, F2_723, F3_723, F4_723, F5_723, F6_723, F7_723⟩ := hQ723
    have N724 := Fr.app N0 N723
    have O726 := O714.keep K723 (allS ge711 all0)
    have Z727 : n0 ≤ T723.heap.size := Nat.le_trans Z712 K723.1
    show own_Go p e below G (T723.setTop (mkF m 48 #[.val (.long le), .second, .val (.long st), .second, .val (.long t1), .second, .val (.long t2), .second, .val (.long q), .second, .val (.int fl), .val (.int (4 : Int32)), .val (.int (0 : Int32)), .val (.int (0 : Int32)), .unset, .unset, .unset, .unset, .unset, .unset, .unset] [(.ref a710)]))
    refine own_astore X723 hx (hb hby at_48) rfl #[.val (.long le), .second, .val (.long st), .second, .val (.long t1), .second, .val (.long t2), .second, .val (.long q), .second, .val (.int fl), .val (.int (4 : Int32)), .val (.int (0 : Int32)), .val (.int (0 : Int32)), .val (.ref a710), .unset, .unset, .unset, .unset, .unset, .unset] rfl 50 rfl ?_
    refine own_iload X723 hx (hb hby at_50) rfl 52 rfl ?_
    refine own_ifY X723 hx (hb hby at_52) ((if0 _ _).trans (teq (by decide)).1) 64 ⟨by decide, by decide⟩ ?_
    refine own_iload X723 hx (hb hby at_64) rfl 66 rfl ?_
    refine own_iconst X723 hx (hb hby at_66) (1 : Int32) rfl 67 rfl ?_
    refine own_icmpN X723 hx (hb hby at_67) (flt (by decide)).1 70 rfl ?_
    refine own_aload X723 hx (hb hby at_70) rfl rfl 72 rfl ?_
    refine own_lload X723 hx (hb hby at_72) rfl 74 rfl ?_
    refine own_callV X723 hx hZ hown (own_w hw 15 rfl) (own_w hw 16 rfl) (own_w hw 18 rfl) (notFace_of_selects (args := #[]) (mvT hZ (own_w hw 18 rfl))) (own_w hw 17 rfl) (own_w hw 2 rfl) (own_w hw 19 rfl) (by decide) (rfl : T723.heap = T723.heap) E723 (rm2 l Z a0 hw [] a710 t1 le le st (0 : Int32) (0 : Int64) (0 : Int32) (0 : Int64) (0 : Int64) T723.heap n0 Z727 ge711 ⟨E723, F0_723, F1_723, F2_723, F3_723, F4_723, F5_723, F6_723, F7_723⟩) (by rw [hml]; rfl) pd_3 (argsL := [(.long t1)]) rfl (rest := []) rfl (hb hby at_74) 0 (Nat.le_of_eq rfl) (by decide) (by decide) (by decide) (by decide) 77 rfl (fun T728 L728 v728 X728 hQ728 => ?_)
    have hQ728 : v728 = none ∧ Fr n0 L728 ∧ Keep T723.heap T728.heap [a710] ∧ own_HW Z T728.heap a710 le le st (1 : Int32) t1 (0 : Int32) (0 : Int64) (0 : Int64) := hQ728
    obtain ⟨rfl, N728, K728, E728, F0_728, F1_728, F2_728, F3_728, F4_728, F5_728, F6_728, F7_728⟩ := hQ728
    have N729 := Fr.app N724 N728
    have O731 := O726.keep K728 (allS ge711 all0)
    have Z732 : n0 ≤ T728.heap.size := Nat.le_trans Z727 K728.1
    show own_Go p e below G (T728.setTop (mkF m 77 #[.val (.long le), .second, .val (.long st), .second, .val (.long t1), .second, .val (.long t2), .second, .val (.long q), .second, .val (.int fl), .val (.int (4 : Int32)), .val (.int (0 : Int32)), .val (.int (0 : Int32)), .val (.ref a710), .unset, .unset, .unset, .unset, .unset, .unset] []))
    refine own_iload X728 hx (hb hby at_77) rfl 79 rfl ?_
    refine own_iconst X728 hx (hb hby at_79) (2 : Int32) rfl 80 rfl ?_
    refine own_icmpY X728 hx (hb hby at_80) (feq (by decide)).2 90 ⟨by decide, by decide⟩ ?_
    refine own_iload X728 hx (hb hby at_90) rfl 92 rfl ?_
    refine own_iconst X728 hx (hb hby at_92) (3 : Int32) rfl 93 rfl ?_
    refine own_icmpN X728 hx (hb hby at_93) (flt (by decide)).1 96 rfl ?_
    refine own_aload X728 hx (hb hby at_96) rfl rfl 98 rfl ?_
    refine own_callV X728 hx hZ hown (own_w hw 48 rfl) (own_w hw 49 rfl) (own_w hw 51 rfl) (notFace_of_selects (args := #[]) (mvT hZ (own_w hw 51 rfl))) (own_w hw 50 rfl) (own_w hw 2 rfl) (own_w hw 52 rfl) (by decide) (rfl : T728.heap = T728.heap) E728 (rm3 l Z a0 hw [] a710 le le st (1 : Int32) t1 (0 : Int32) (0 : Int64) (0 : Int64) T728.heap n0 Z732 ge711 ⟨E728, F0_728, F1_728, F2_728, F3_728, F4_728, F5_728, F6_728, F7_728⟩) (by rw [hml]; rfl) pd_4 (argsL := []) rfl (rest := []) rfl (hb hby at_98) 0 (Nat.le_of_eq rfl) (by decide) (by decide) (by decide) (by decide) 101 rfl (fun T733 L733 v733 X733 hQ733 => ?_)
    have hQ733 : v733 = none ∧ Fr n0 L733 ∧ Keep T728.heap T733.heap [a710] ∧ own_HW Z T733.heap a710 le le st (0 : Int32) t1 (0 : Int32) (0 : Int64) (0 : Int64) := hQ733
    obtain ⟨rfl, N733, K733, E733, F0_733, F1_733, F2_733, F3_733, F4_733, F5_733, F6_733, F7_733⟩ := hQ733
    have N734 := Fr.app N729 N733
    have O736 := O731.keep K733 (allS ge711 all0)
    have Z737 : n0 ≤ T733.heap.size := Nat.le_trans Z732 K733.1
    show own_Go p e below G (T733.setTop (mkF m 101 #[.val (.long le), .second, .val (.long st), .second, .val (.long t1), .second, .val (.long t2), .second, .val (.long q), .second, .val (.int fl), .val (.int (4 : Int32)), .val (.int (0 : Int32)), .val (.int (0 : Int32)), .val (.ref a710), .unset, .unset, .unset, .unset, .unset, .unset] []))
    refine own_iload X733 hx (hb hby at_101) rfl 103 rfl ?_
    refine own_iconst X733 hx (hb hby at_103) (4 : Int32) rfl 104 rfl ?_
    refine own_icmpN X733 hx (hb hby at_104) (teq (by decide)).2 107 rfl ?_
    refine own_aload X733 hx (hb hby at_107) rfl rfl 109 rfl ?_
    refine own_lload X733 hx (hb hby at_109) rfl 111 rfl ?_
    refine own_callV X733 hx hZ hown (own_w hw 15 rfl) (own_w hw 16 rfl) (own_w hw 18 rfl) (notFace_of_selects (args := #[]) (mvT hZ (own_w hw 18 rfl))) (own_w hw 17 rfl) (own_w hw 2 rfl) (own_w hw 19 rfl) (by decide) (rfl : T733.heap = T733.heap) E733 (rm2 l Z a0 hw [] a710 t2 le le st (0 : Int32) t1 (0 : Int32) (0 : Int64) (0 : Int64) T733.heap n0 Z737 ge711 ⟨E733, F0_733, F1_733, F2_733, F3_733, F4_733, F5_733, F6_733, F7_733⟩) (by rw [hml]; rfl) pd_3 (argsL := [(.long t2)]) rfl (rest := []) rfl (hb hby at_111) 0 (Nat.le_of_eq rfl) (by decide) (by decide) (by decide) (by decide) 114 rfl (fun T738 L738 v738 X738 hQ738 => ?_)
    have hQ738 : v738 = none ∧ Fr n0 L738 ∧ Keep T733.heap T738.heap [a710] ∧ own_HW Z T738.heap a710 le le st (1 : Int32) t2 (0 : Int32) (0 : Int64) (0 : Int64) := hQ738
    obtain ⟨rfl, N738, K738, E738, F0_738, F1_738, F2_738, F3_738, F4_738, F5_738, F6_738, F7_738⟩ := hQ738
    have N739 := Fr.app N734 N738
    have O741 := O736.keep K738 (allS ge711 all0)
    have Z742 : n0 ≤ T738.heap.size := Nat.le_trans Z737 K738.1
    show own_Go p e below G (T738.setTop (mkF m 114 #[.val (.long le), .second, .val (.long st), .second, .val (.long t1), .second, .val (.long t2), .second, .val (.long q), .second, .val (.int fl), .val (.int (4 : Int32)), .val (.int (0 : Int32)), .val (.int (0 : Int32)), .val (.ref a710), .unset, .unset, .unset, .unset, .unset, .unset] []))
    refine own_iload X738 hx (hb hby at_114) rfl 116 rfl ?_
    refine own_ifY X738 hx (hb hby at_116) ((if0 _ _).trans (teq (by decide)).1) 125 ⟨by decide, by decide⟩ ?_
    refine own_iload X738 hx (hb hby at_125) rfl 127 rfl ?_
    refine own_iconst X738 hx (hb hby at_127) (1 : Int32) rfl 128 rfl ?_
    refine own_icmpN X738 hx (hb hby at_128) (feq (by decide)).1 131 rfl ?_
    refine own_iload X738 hx (hb hby at_131) rfl 133 rfl ?_
    refine own_iconst X738 hx (hb hby at_133) (2 : Int32) rfl 134 rfl ?_
    refine own_icmpN X738 hx (hb hby at_134) (feq (by decide)).1 137 rfl ?_
    refine own_iload X738 hx (hb hby at_137) rfl 139 rfl ?_
    refine own_iconst X738 hx (hb hby at_139) (4 : Int32) rfl 140 rfl ?_
    refine own_icmpN X738 hx (hb hby at_140) (teq (by decide)).2 143 rfl ?_
    refine own_iconst X738 hx (hb hby at_143) (1 : Int32) rfl 144 rfl ?_
    refine own_goto X738 hx (hb hby at_144) 148 ⟨by decide, by decide⟩ ?_
    refine own_istore X738 hx (hb hby at_148) #[.val (.long le), .second, .val (.long st), .second, .val (.long t1), .second, .val (.long t2), .second, .val (.long q), .second, .val (.int fl), .val (.int (4 : Int32)), .val (.int (0 : Int32)), .val (.int (0 : Int32)), .val (.ref a710), .val (.int (1 : Int32)), .unset, .unset, .unset, .unset, .unset] rfl 150 rfl ?_
    refine own_iload X738 hx (hb hby at_150) rfl 152 rfl ?_
    refine own_iconst X738 hx (hb hby at_152) (4 : Int32) rfl 153 rfl ?_
    refine own_icmpN X738 hx (hb hby at_153) (teq (by decide)).2 156 rfl ?_
    refine own_lload X738 hx (hb hby at_156) rfl 158 rfl ?_
    refine own_goto X738 hx (hb hby at_158) 163 ⟨by decide, by decide⟩ ?_
    refine own_lstore X738 hx (hb hby at_163) #[.val (.long le), .second, .val (.long st), .second, .val (.long t1), .second, .val (.long t2), .second, .val (.long q), .second, .val (.int fl), .val (.int (4 : Int32)), .val (.int (0 : Int32)), .val (.int (0 : Int32)), .val (.ref a710), .val (.int (1 : Int32)), .val (.long t2), .second, .unset, .unset, .unset] rfl 165 rfl ?_
    refine own_iload X738 hx (hb hby at_165) rfl 167 rfl ?_
    refine own_ifY X738 hx (hb hby at_167) ((if0 _ _).trans (teq (by decide)).1) 178 ⟨by decide, by decide⟩ ?_
    refine own_lloadN X738 hx (hb hby at_178) rfl 179 rfl ?_
    refine own_lstore X738 hx (hb hby at_179) #[.val (.long le), .second, .val (.long st), .second, .val (.long t1), .second, .val (.long t2), .second, .val (.long q), .second, .val (.int fl), .val (.int (4 : Int32)), .val (.int (0 : Int32)), .val (.int (0 : Int32)), .val (.ref a710), .val (.int (1 : Int32)), .val (.long t2), .second, .val (.long st), .second, .unset] rfl 181 rfl ?_
    suffices kj744 : ∀ u743 : Int32, u743 = own_due (1 : Int32) t2 le st q → own_Go p e below G (T738.setTop (mkF m 211 #[.val (.long le), .second, .val (.long st), .second, .val (.long t1), .second, .val (.long t2), .second, .val (.long q), .second, .val (.int fl), .val (.int (4 : Int32)), .val (.int (0 : Int32)), .val (.int (0 : Int32)), .val (.ref a710), .val (.int (1 : Int32)), .val (.long t2), .second, .val (.long st), .second, .unset] [(.int u743)])) by
      refine own_iload X738 hx (hb hby at_181) rfl 183 rfl ?_
      refine own_ifN X738 hx (hb hby at_183) ((if0 _ _).trans (feq (by decide)).1) 186 rfl ?_
      refine own_lload X738 hx (hb hby at_186) rfl 188 rfl ?_
      refine own_lload X738 hx (hb hby at_188) rfl 190 rfl ?_
      refine own_lsub X738 hx (hb hby at_190) 191 rfl ?_
      refine own_lloadN X738 hx (hb hby at_191) rfl 192 rfl ?_
      refine own_lcmp X738 hx (hb hby at_192) 193 rfl ?_
      by_cases c745 : (q - t2) < le
      ·
        refine own_ifY X738 hx (hb hby at_193) (own_ltL c745).1 210 ⟨by decide, by decide⟩ ?_
        refine own_iconst X738 hx (hb hby at_210) (0 : Int32) rfl 211 rfl ?_
        exact kj744 (0 : Int32) (by simp [own_due, c709, c745])
      ·
        refine own_ifN X738 hx (hb hby at_193) (own_nltL c745).1 196 rfl ?_
        refine own_lload X738 hx (hb hby at_196) rfl 198 rfl ?_
        refine own_lload X738 hx (hb hby at_198) rfl 200 rfl ?_
        refine own_lsub X738 hx (hb hby at_200) 201 rfl ?_
        refine own_lconst X738 hx (hb hby at_201) (0 : Int64) rfl 202 rfl ?_
        refine own_lcmp X738 hx (hb hby at_202) 203 rfl ?_
        by_cases c746 : (q - st) < (0 : Int64)
        ·
          refine own_ifY X738 hx (hb hby at_203) (own_ltL c746).1 210 ⟨by decide, by decide⟩ ?_
          refine own_iconst X738 hx (hb hby at_210) (0 : Int32) rfl 211 rfl ?_
          exact kj744 (0 : Int32) (by simp [own_due, c709, c745, c746])
        ·
          refine own_ifN X738 hx (hb hby at_203) (own_nltL c746).1 206 rfl ?_
          refine own_iconst X738 hx (hb hby at_206) (1 : Int32) rfl 207 rfl ?_
          refine own_goto X738 hx (hb hby at_207) 211 ⟨by decide, by decide⟩ ?_
          exact kj744 (1 : Int32) (by simp [own_due, c709, c745, c746])
    intro u743 hu743
    refine own_istore X738 hx (hb hby at_211) #[.val (.long le), .second, .val (.long st), .second, .val (.long t1), .second, .val (.long t2), .second, .val (.long q), .second, .val (.int fl), .val (.int (4 : Int32)), .val (.int (0 : Int32)), .val (.int (0 : Int32)), .val (.ref a710), .val (.int (1 : Int32)), .val (.long t2), .second, .val (.long st), .second, .val (.int u743)] rfl 213 rfl ?_
    refine own_aload X738 hx (hb hby at_213) rfl rfl 215 rfl ?_
    refine own_lload X738 hx (hb hby at_215) rfl 217 rfl ?_
    refine own_callV X738 hx hZ hown (own_w hw 24 rfl) (own_w hw 25 rfl) (own_w hw 27 rfl) (notFace_of_selects (args := #[]) (mvT hZ (own_w hw 27 rfl))) (own_w hw 26 rfl) (own_w hw 2 rfl) (own_w hw 28 rfl) (by decide) (rfl : T738.heap = T738.heap) E738 (rm4 l Z a0 hw [] a710 q le le st (1 : Int32) t2 (0 : Int32) (0 : Int64) (0 : Int64) T738.heap n0 Z742 ge711 ⟨E738, F0_738, F1_738, F2_738, F3_738, F4_738, F5_738, F6_738, F7_738⟩) (by rw [hml]; rfl) pd_1 (argsL := [(.long q)]) rfl (rest := []) rfl (hb hby at_217) 0 (Nat.le_of_eq rfl) (by decide) (by decide) (by decide) (by decide) 220 rfl (fun T747 L747 v747 X747 hQ747 => ?_)
    obtain ⟨rfl, N747, e747⟩ := hQ747
    have N748 := Fr.app N739 N747
    show own_Go p e below G (T747.setTop (mkF m 220 #[.val (.long le), .second, .val (.long st), .second, .val (.long t1), .second, .val (.long t2), .second, .val (.long q), .second, .val (.int fl), .val (.int (4 : Int32)), .val (.int (0 : Int32)), .val (.int (0 : Int32)), .val (.ref a710), .val (.int (1 : Int32)), .val (.long t2), .second, .val (.long st), .second, .val (.int u743)] [(.int (own_due (1 : Int32) t2 le st q))]))
    refine own_iload X747 hx (hb hby at_220) rfl 222 rfl ?_
    refine own_icmpN X747 hx (hb hby at_222) (teq (by subst hu743; simp [own_due])).2 225 rfl ?_
    refine own_iconst X747 hx (hb hby at_225) (1 : Int32) rfl 226 rfl ?_
    refine own_goto X747 hx (hb hby at_226) 230 ⟨by decide, by decide⟩ ?_
    refine own_nreturn X747 hx Bd.notSynchronized hG Bd.returns (by simp) (hb hby at_230) (by decide) (by decide) ?_
    rw [e747]
    exact ⟨rfl, N748⟩
  ·
    refine own_ifN X0 hx (hb hby at_29) ((if0 _ _).trans (feq c709).1) 32 rfl ?_
    refine own_iconst X0 hx (hb hby at_32) (1 : Int32) rfl 33 rfl ?_
    refine own_goto X0 hx (hb hby at_33) 37 ⟨by decide, by decide⟩ ?_
    refine own_istore X0 hx (hb hby at_37) #[.val (.long le), .second, .val (.long st), .second, .val (.long t1), .second, .val (.long t2), .second, .val (.long q), .second, .val (.int fl), .val (.int (4 : Int32)), .val (.int (0 : Int32)), .val (.int (1 : Int32)), .unset, .unset, .unset, .unset, .unset, .unset, .unset] rfl 39 rfl ?_
    refine own_newO X0 hx hZ hown (own_w hw 0 rfl) (own_w hw 1 rfl) (own_w hw 2 rfl) e0 (hb hby at_39) (by decide) (by decide) 42 rfl (fun T749 h749 a749 g749 X749 e749 E749 A749 D749 => ?_)
    have ge750 : n0 ≤ a749 := by rw [g749]; exact Z0
    have Z751 : n0 ≤ h749.size := Nat.le_trans Z0 E749.1
    have O753 := O0.ext E749
    have F754 : Fld Z h749 a749 "com/example/causeway/causeway/server/HandoverWait" "leaseNanos" "J" (.long (0 : Int64)) := D749 (Or.inr (own_w hw 10 rfl)) (ty := .long) (by decide)
    have F755 : Fld Z h749 a749 "com/example/causeway/causeway/server/HandoverWait" "waitNanos" "J" (.long (0 : Int64)) := D749 (Or.inl (own_w hw 12 rfl)) (ty := .long) (by decide)
    have F756 : Fld Z h749 a749 "com/example/causeway/causeway/server/HandoverWait" "retryAfter" "J" (.long (0 : Int64)) := D749 (Or.inl (own_w hw 14 rfl)) (ty := .long) (by decide)
    have F757 : Fld Z h749 a749 "com/example/causeway/causeway/server/HandoverWait" "caughtUp" "Z" (.int (0 : Int32)) := D749 (Or.inl (own_w hw 21 rfl)) (ty := .boolean) (by decide)
    have F758 : Fld Z h749 a749 "com/example/causeway/causeway/server/HandoverWait" "caughtUpSince" "J" (.long (0 : Int64)) := D749 (Or.inl (own_w hw 23 rfl)) (ty := .long) (by decide)
    have F759 : Fld Z h749 a749 "com/example/causeway/causeway/server/HandoverWait" "led" "Z" (.int (0 : Int32)) := D749 (Or.inl (own_w hw 43 rfl)) (ty := .boolean) (by decide)
    have F760 : Fld Z h749 a749 "com/example/causeway/causeway/server/HandoverWait" "ledSince" "J" (.long (0 : Int64)) := D749 (Or.inl (own_w hw 45 rfl)) (ty := .long) (by decide)
    have F761 : Fld Z h749 a749 "com/example/causeway/causeway/server/HandoverWait" "ledUntil" "J" (.long (0 : Int64)) := D749 (Or.inl (own_w hw 47 rfl)) (ty := .long) (by decide)
    refine own_dup X749 hx (hb hby at_42) rfl 43 rfl ?_
    refine own_lloadN X749 hx (hb hby at_43) rfl 44 rfl ?_
    refine own_lloadN X749 hx (hb hby at_44) rfl 45 rfl ?_
    refine own_callI X749 hx hZ rfl hown (own_w hw 3 rfl) (own_w hw 4 rfl) (own_w hw 2 rfl) (own_w hw 5 rfl) (by decide) e749 (rm1 l Z a0 hw [] a749 le st h749 n0 Z751 ge750 ⟨A749, F754, F755, F756, F757, F758, F759, F760, F761⟩) (by rw [hml]; rfl) pd_0 (argsL := [(.long le), (.long st)]) rfl (rest := [(.ref a749)]) rfl (hb hby at_45) 1 (Nat.le_of_eq rfl) (by decide) (by decide) (by decide) (by decide) 48 rfl (fun T762 L762 v762 X762 hQ762 => ?_)
    obtain ⟨rfl, N762, K762, E762, F0_762, F1_762, F2_762, F3_762, F4_762, F5_762, F6_762, F7_762⟩ := hQ762
    have N763 := Fr.app N0 N762
    have O765 := O753.keep K762 (allS ge750 all0)
    have Z766 : n0 ≤ T762.heap.size := Nat.le_trans Z751 K762.1
    show own_Go p e below G (T762.setTop (mkF m 48 #[.val (.long le), .second, .val (.long st), .second, .val (.long t1), .second, .val (.long t2), .second, .val (.long q), .second, .val (.int fl), .val (.int (4 : Int32)), .val (.int (0 : Int32)), .val (.int (1 : Int32)), .unset, .unset, .unset, .unset, .unset, .unset, .unset] [(.ref a749)]))
    refine own_astore X762 hx (hb hby at_48) rfl #[.val (.long le), .second, .val (.long st), .second, .val (.long t1), .second, .val (.long t2), .second, .val (.long q), .second, .val (.int fl), .val (.int (4 : Int32)), .val (.int (0 : Int32)), .val (.int (1 : Int32)), .val (.ref a749), .unset, .unset, .unset, .unset, .unset, .unset] rfl 50 rfl ?_
    refine own_iload X762 hx (hb hby at_50) rfl 52 rfl ?_
    refine own_ifN X762 hx (hb hby at_52) ((if0 _ _).trans (feq (by decide)).1) 55 rfl ?_
    refine own_aload X762 hx (hb hby at_55) rfl rfl 57 rfl ?_
    refine own_iconst X762 hx (hb hby at_57) (1 : Int32) rfl 58 rfl ?_
    refine own_lload X762 hx (hb hby at_58) rfl 60 rfl ?_
    refine own_callV X762 hx hZ hown (own_w hw 37 rfl) (own_w hw 38 rfl) (own_w hw 40 rfl) (notFace_of_selects (args := #[]) (mvT hZ (own_w hw 40 rfl))) (own_w hw 39 rfl) (own_w hw 2 rfl) (own_w hw 41 rfl) (by decide) (rfl : T762.heap = T762.heap) E762 (rm6 l Z a0 hw [] a749 t1 le le st (0 : Int32) (0 : Int64) (0 : Int64) (0 : Int64) T762.heap n0 Z766 ge750 ⟨E762, F0_762, F1_762, F2_762, F3_762, F4_762, F5_762, F6_762, F7_762⟩) (by rw [hml]; rfl) pd_2 (argsL := [(.int (1 : Int32)), (.long t1)]) rfl (rest := []) rfl (hb hby at_60) 0 (Nat.le_of_eq rfl) (by decide) (by decide) (by decide) (by decide) 63 rfl (fun T767 L767 v767 X767 hQ767 => ?_)
    have hQ767 : v767 = some (.int (0 : Int32)) ∧ Fr n0 L767 ∧ Keep T762.heap T767.heap [a749] ∧ own_HW Z T767.heap a749 le le st (0 : Int32) (0 : Int64) (1 : Int32) t1 t1 := hQ767
    obtain ⟨rfl, N767, K767, E767, F0_767, F1_767, F2_767, F3_767, F4_767, F5_767, F6_767, F7_767⟩ := hQ767
    have N768 := Fr.app N763 N767
    have O770 := O765.keep K767 (allS ge750 all0)
    have Z771 : n0 ≤ T767.heap.size := Nat.le_trans Z766 K767.1
    show own_Go p e below G (T767.setTop (mkF m 63 #[.val (.long le), .second, .val (.long st), .second, .val (.long t1), .second, .val (.long t2), .second, .val (.long q), .second, .val (.int fl), .val (.int (4 : Int32)), .val (.int (0 : Int32)), .val (.int (1 : Int32)), .val (.ref a749), .unset, .unset, .unset, .unset, .unset, .unset] [(.int (0 : Int32))]))
    refine own_pop X767 hx (hb hby at_63) rfl 64 rfl ?_
    refine own_iload X767 hx (hb hby at_64) rfl 66 rfl ?_
    refine own_iconst X767 hx (hb hby at_66) (1 : Int32) rfl 67 rfl ?_
    refine own_icmpN X767 hx (hb hby at_67) (flt (by decide)).1 70 rfl ?_
    refine own_aload X767 hx (hb hby at_70) rfl rfl 72 rfl ?_
    refine own_lload X767 hx (hb hby at_72) rfl 74 rfl ?_
    refine own_callV X767 hx hZ hown (own_w hw 15 rfl) (own_w hw 16 rfl) (own_w hw 18 rfl) (notFace_of_selects (args := #[]) (mvT hZ (own_w hw 18 rfl))) (own_w hw 17 rfl) (own_w hw 2 rfl) (own_w hw 19 rfl) (by decide) (rfl : T767.heap = T767.heap) E767 (rm2 l Z a0 hw [] a749 t1 le le st (0 : Int32) (0 : Int64) (1 : Int32) t1 t1 T767.heap n0 Z771 ge750 ⟨E767, F0_767, F1_767, F2_767, F3_767, F4_767, F5_767, F6_767, F7_767⟩) (by rw [hml]; rfl) pd_3 (argsL := [(.long t1)]) rfl (rest := []) rfl (hb hby at_74) 0 (Nat.le_of_eq rfl) (by decide) (by decide) (by decide) (by decide) 77 rfl (fun T772 L772 v772 X772 hQ772 => ?_)
    have hQ772 : v772 = none ∧ Fr n0 L772 ∧ Keep T767.heap T772.heap [a749] ∧ own_HW Z T772.heap a749 le le st (1 : Int32) t1 (1 : Int32) t1 t1 := hQ772
    obtain ⟨rfl, N772, K772, E772, F0_772, F1_772, F2_772, F3_772, F4_772, F5_772, F6_772, F7_772⟩ := hQ772
    have N773 := Fr.app N768 N772
    have O775 := O770.keep K772 (allS ge750 all0)
    have Z776 : n0 ≤ T772.heap.size := Nat.le_trans Z771 K772.1
    show own_Go p e below G (T772.setTop (mkF m 77 #[.val (.long le), .second, .val (.long st), .second, .val (.long t1), .second, .val (.long t2), .second, .val (.long q), .second, .val (.int fl), .val (.int (4 : Int32)), .val (.int (0 : Int32)), .val (.int (1 : Int32)), .val (.ref a749), .unset, .unset, .unset, .unset, .unset, .unset] []))
    refine own_iload X772 hx (hb hby at_77) rfl 79 rfl ?_
    refine own_iconst X772 hx (hb hby at_79) (2 : Int32) rfl 80 rfl ?_
    refine own_icmpY X772 hx (hb hby at_80) (feq (by decide)).2 90 ⟨by decide, by decide⟩ ?_
    refine own_iload X772 hx (hb hby at_90) rfl 92 rfl ?_
    refine own_iconst X772 hx (hb hby at_92) (3 : Int32) rfl 93 rfl ?_
    refine own_icmpN X772 hx (hb hby at_93) (flt (by decide)).1 96 rfl ?_
    refine own_aload X772 hx (hb hby at_96) rfl rfl 98 rfl ?_
    refine own_callV X772 hx hZ hown (own_w hw 48 rfl) (own_w hw 49 rfl) (own_w hw 51 rfl) (notFace_of_selects (args := #[]) (mvT hZ (own_w hw 51 rfl))) (own_w hw 50 rfl) (own_w hw 2 rfl) (own_w hw 52 rfl) (by decide) (rfl : T772.heap = T772.heap) E772 (rm3 l Z a0 hw [] a749 le le st (1 : Int32) t1 (1 : Int32) t1 t1 T772.heap n0 Z776 ge750 ⟨E772, F0_772, F1_772, F2_772, F3_772, F4_772, F5_772, F6_772, F7_772⟩) (by rw [hml]; rfl) pd_4 (argsL := []) rfl (rest := []) rfl (hb hby at_98) 0 (Nat.le_of_eq rfl) (by decide) (by decide) (by decide) (by decide) 101 rfl (fun T777 L777 v777 X777 hQ777 => ?_)
    have hQ777 : v777 = none ∧ Fr n0 L777 ∧ Keep T772.heap T777.heap [a749] ∧ own_HW Z T777.heap a749 le le st (0 : Int32) t1 (1 : Int32) t1 t1 := hQ777
    obtain ⟨rfl, N777, K777, E777, F0_777, F1_777, F2_777, F3_777, F4_777, F5_777, F6_777, F7_777⟩ := hQ777
    have N778 := Fr.app N773 N777
    have O780 := O775.keep K777 (allS ge750 all0)
    have Z781 : n0 ≤ T777.heap.size := Nat.le_trans Z776 K777.1
    show own_Go p e below G (T777.setTop (mkF m 101 #[.val (.long le), .second, .val (.long st), .second, .val (.long t1), .second, .val (.long t2), .second, .val (.long q), .second, .val (.int fl), .val (.int (4 : Int32)), .val (.int (0 : Int32)), .val (.int (1 : Int32)), .val (.ref a749), .unset, .unset, .unset, .unset, .unset, .unset] []))
    refine own_iload X777 hx (hb hby at_101) rfl 103 rfl ?_
    refine own_iconst X777 hx (hb hby at_103) (4 : Int32) rfl 104 rfl ?_
    refine own_icmpN X777 hx (hb hby at_104) (teq (by decide)).2 107 rfl ?_
    refine own_aload X777 hx (hb hby at_107) rfl rfl 109 rfl ?_
    refine own_lload X777 hx (hb hby at_109) rfl 111 rfl ?_
    refine own_callV X777 hx hZ hown (own_w hw 15 rfl) (own_w hw 16 rfl) (own_w hw 18 rfl) (notFace_of_selects (args := #[]) (mvT hZ (own_w hw 18 rfl))) (own_w hw 17 rfl) (own_w hw 2 rfl) (own_w hw 19 rfl) (by decide) (rfl : T777.heap = T777.heap) E777 (rm2 l Z a0 hw [] a749 t2 le le st (0 : Int32) t1 (1 : Int32) t1 t1 T777.heap n0 Z781 ge750 ⟨E777, F0_777, F1_777, F2_777, F3_777, F4_777, F5_777, F6_777, F7_777⟩) (by rw [hml]; rfl) pd_3 (argsL := [(.long t2)]) rfl (rest := []) rfl (hb hby at_111) 0 (Nat.le_of_eq rfl) (by decide) (by decide) (by decide) (by decide) 114 rfl (fun T782 L782 v782 X782 hQ782 => ?_)
    have hQ782 : v782 = none ∧ Fr n0 L782 ∧ Keep T777.heap T782.heap [a749] ∧ own_HW Z T782.heap a749 le le st (1 : Int32) t2 (1 : Int32) t1 t1 := hQ782
    obtain ⟨rfl, N782, K782, E782, F0_782, F1_782, F2_782, F3_782, F4_782, F5_782, F6_782, F7_782⟩ := hQ782
    have N783 := Fr.app N778 N782
    have O785 := O780.keep K782 (allS ge750 all0)
    have Z786 : n0 ≤ T782.heap.size := Nat.le_trans Z781 K782.1
    show own_Go p e below G (T782.setTop (mkF m 114 #[.val (.long le), .second, .val (.long st), .second, .val (.long t1), .second, .val (.long t2), .second, .val (.long q), .second, .val (.int fl), .val (.int (4 : Int32)), .val (.int (0 : Int32)), .val (.int (1 : Int32)), .val (.ref a749), .unset, .unset, .unset, .unset, .unset, .unset] []))
    refine own_iload X782 hx (hb hby at_114) rfl 116 rfl ?_
    refine own_ifY X782 hx (hb hby at_116) ((if0 _ _).trans (teq (by decide)).1) 125 ⟨by decide, by decide⟩ ?_
    refine own_iload X782 hx (hb hby at_125) rfl 127 rfl ?_
    refine own_iconst X782 hx (hb hby at_127) (1 : Int32) rfl 128 rfl ?_
    refine own_icmpN X782 hx (hb hby at_128) (feq (by decide)).1 131 rfl ?_
    refine own_iload X782 hx (hb hby at_131) rfl 133 rfl ?_
    refine own_iconst X782 hx (hb hby at_133) (2 : Int32) rfl 134 rfl ?_
    refine own_icmpN X782 hx (hb hby at_134) (feq (by decide)).1 137 rfl ?_
    refine own_iload X782 hx (hb hby at_137) rfl 139 rfl ?_
    refine own_iconst X782 hx (hb hby at_139) (4 : Int32) rfl 140 rfl ?_
    refine own_icmpN X782 hx (hb hby at_140) (teq (by decide)).2 143 rfl ?_
    refine own_iconst X782 hx (hb hby at_143) (1 : Int32) rfl 144 rfl ?_
    refine own_goto X782 hx (hb hby at_144) 148 ⟨by decide, by decide⟩ ?_
    refine own_istore X782 hx (hb hby at_148) #[.val (.long le), .second, .val (.long st), .second, .val (.long t1), .second, .val (.long t2), .second, .val (.long q), .second, .val (.int fl), .val (.int (4 : Int32)), .val (.int (0 : Int32)), .val (.int (1 : Int32)), .val (.ref a749), .val (.int (1 : Int32)), .unset, .unset, .unset, .unset, .unset] rfl 150 rfl ?_
    refine own_iload X782 hx (hb hby at_150) rfl 152 rfl ?_
    refine own_iconst X782 hx (hb hby at_152) (4 : Int32) rfl 153 rfl ?_
    refine own_icmpN X782 hx (hb hby at_153) (teq (by decide)).2 156 rfl ?_
    refine own_lload X782 hx (hb hby at_156) rfl 158 rfl ?_
    refine own_goto X782 hx (hb hby at_158) 163 ⟨by decide, by decide⟩ ?_
    refine own_lstore X782 hx (hb hby at_163) #[.val (.long le), .second, .val (.long st), .second, .val (.long t1), .second, .val (.long t2), .second, .val (.long q), .second, .val (.int fl), .val (.int (4 : Int32)), .val (.int (0 : Int32)), .val (.int (1 : Int32)), .val (.ref a749), .val (.int (1 : Int32)), .val (.long t2), .second, .unset, .unset, .unset] rfl 165 rfl ?_
    refine own_iload X782 hx (hb hby at_165) rfl 167 rfl ?_
    refine own_ifY X782 hx (hb hby at_167) ((if0 _ _).trans (teq (by decide)).1) 178 ⟨by decide, by decide⟩ ?_
    refine own_lloadN X782 hx (hb hby at_178) rfl 179 rfl ?_
    refine own_lstore X782 hx (hb hby at_179) #[.val (.long le), .second, .val (.long st), .second, .val (.long t1), .second, .val (.long t2), .second, .val (.long q), .second, .val (.int fl), .val (.int (4 : Int32)), .val (.int (0 : Int32)), .val (.int (1 : Int32)), .val (.ref a749), .val (.int (1 : Int32)), .val (.long t2), .second, .val (.long st), .second, .unset] rfl 181 rfl ?_
    suffices kj788 : ∀ u787 : Int32, u787 = own_due (1 : Int32) t2 le st q → own_Go p e below G (T782.setTop (mkF m 211 #[.val (.long le), .second, .val (.long st), .second, .val (.long t1), .second, .val (.long t2), .second, .val (.long q), .second, .val (.int fl), .val (.int (4 : Int32)), .val (.int (0 : Int32)), .val (.int (1 : Int32)), .val (.ref a749), .val (.int (1 : Int32)), .val (.long t2), .second, .val (.long st), .second, .unset] [(.int u787)])) by
      refine own_iload X782 hx (hb hby at_181) rfl 183 rfl ?_
      refine own_ifN X782 hx (hb hby at_183) ((if0 _ _).trans (feq (by decide)).1) 186 rfl ?_
      refine own_lload X782 hx (hb hby at_186) rfl 188 rfl ?_
      refine own_lload X782 hx (hb hby at_188) rfl 190 rfl ?_
      refine own_lsub X782 hx (hb hby at_190) 191 rfl ?_
      refine own_lloadN X782 hx (hb hby at_191) rfl 192 rfl ?_
      refine own_lcmp X782 hx (hb hby at_192) 193 rfl ?_
      by_cases c789 : (q - t2) < le
      ·
        refine own_ifY X782 hx (hb hby at_193) (own_ltL c789).1 210 ⟨by decide, by decide⟩ ?_
        refine own_iconst X782 hx (hb hby at_210) (0 : Int32) rfl 211 rfl ?_
        exact kj788 (0 : Int32) (by simp [own_due, c709, c789])
      ·
        refine own_ifN X782 hx (hb hby at_193) (own_nltL c789).1 196 rfl ?_
        refine own_lload X782 hx (hb hby at_196) rfl 198 rfl ?_
        refine own_lload X782 hx (hb hby at_198) rfl 200 rfl ?_
        refine own_lsub X782 hx (hb hby at_200) 201 rfl ?_
        refine own_lconst X782 hx (hb hby at_201) (0 : Int64) rfl 202 rfl ?_
        refine own_lcmp X782 hx (hb hby at_202) 203 rfl ?_
        by_cases c790 : (q - st) < (0 : Int64)
        ·
          refine own_ifY X782 hx (hb hby at_203) (own_ltL c790).1 210 ⟨by decide, by decide⟩ ?_
          refine own_iconst X782 hx (hb hby at_210) (0 : Int32) rfl 211 rfl ?_
          exact kj788 (0 : Int32) (by simp [own_due, c709, c789, c790])
        ·
          refine own_ifN X782 hx (hb hby at_203) (own_nltL c790).1 206 rfl ?_
          refine own_iconst X782 hx (hb hby at_206) (1 : Int32) rfl 207 rfl ?_
          refine own_goto X782 hx (hb hby at_207) 211 ⟨by decide, by decide⟩ ?_
          exact kj788 (1 : Int32) (by simp [own_due, c709, c789, c790])
    intro u787 hu787
    refine own_istore X782 hx (hb hby at_211) #[.val (.long le), .second, .val (.long st), .second, .val (.long t1), .second, .val (.long t2), .second, .val (.long q), .second, .val (.int fl), .val (.int (4 : Int32)), .val (.int (0 : Int32)), .val (.int (1 : Int32)), .val (.ref a749), .val (.int (1 : Int32)), .val (.long t2), .second, .val (.long st), .second, .val (.int u787)] rfl 213 rfl ?_
    refine own_aload X782 hx (hb hby at_213) rfl rfl 215 rfl ?_
    refine own_lload X782 hx (hb hby at_215) rfl 217 rfl ?_
    refine own_callV X782 hx hZ hown (own_w hw 24 rfl) (own_w hw 25 rfl) (own_w hw 27 rfl) (notFace_of_selects (args := #[]) (mvT hZ (own_w hw 27 rfl))) (own_w hw 26 rfl) (own_w hw 2 rfl) (own_w hw 28 rfl) (by decide) (rfl : T782.heap = T782.heap) E782 (rm4 l Z a0 hw [] a749 q le le st (1 : Int32) t2 (1 : Int32) t1 t1 T782.heap n0 Z786 ge750 ⟨E782, F0_782, F1_782, F2_782, F3_782, F4_782, F5_782, F6_782, F7_782⟩) (by rw [hml]; rfl) pd_1 (argsL := [(.long q)]) rfl (rest := []) rfl (hb hby at_217) 0 (Nat.le_of_eq rfl) (by decide) (by decide) (by decide) (by decide) 220 rfl (fun T791 L791 v791 X791 hQ791 => ?_)
    obtain ⟨rfl, N791, e791⟩ := hQ791
    have N792 := Fr.app N783 N791
    show own_Go p e below G (T791.setTop (mkF m 220 #[.val (.long le), .second, .val (.long st), .second, .val (.long t1), .second, .val (.long t2), .second, .val (.long q), .second, .val (.int fl), .val (.int (4 : Int32)), .val (.int (0 : Int32)), .val (.int (1 : Int32)), .val (.ref a749), .val (.int (1 : Int32)), .val (.long t2), .second, .val (.long st), .second, .val (.int u787)] [(.int (own_due (1 : Int32) t2 le st q))]))
    refine own_iload X791 hx (hb hby at_220) rfl 222 rfl ?_
    refine own_icmpN X791 hx (hb hby at_222) (teq (by subst hu787; simp [own_due])).2 225 rfl ?_
    refine own_iconst X791 hx (hb hby at_225) (1 : Int32) rfl 226 rfl ?_
    refine own_goto X791 hx (hb hby at_226) 230 ⟨by decide, by decide⟩ ?_
    refine own_nreturn X791 hx Bd.notSynchronized hG Bd.returns (by simp) (hb hby at_230) (by decide) (by decide) ?_
    rw [e791]
    exact ⟨rfl, N792⟩
theorem ef_rm0_4_1 (m : MethodId) (x0 : Int64) (x1 : Int64) (x2 : Int64) (x3 : Int64) (x4 : Int64) (x5 : Int32) : entryFrame m #[(.long x0), (.long x1), (.long x2), (.long x3), (.long x4), (.int x5)] maxLocals = mkF m 0 #[.val (.long x0), .second, .val (.long x1), .second, .val (.long x2), .second, .val (.long x3), .second, .val (.long x4), .second, .val (.int x5), .unset, .unset, .unset, .unset, .unset, .unset, .unset, .unset, .unset, .unset] [] := by first | (simp [entryFrame, mkF, argsToLocals, Value.category, maxLocals]; done) | rfl
set_option maxRecDepth 65536 in
set_option maxHeartbeats 40000000 in
theorem rm0_4_1 (l : Launch) (Z : State) (a0 : Array Value) (hw : ∀ d ∈ tables_1, d.before a0 Z = true) (ws : List Jvm.Cond) (le st t1 t2 q : Int64) (fl : Int32) (h0 : Heap) (n0 : Nat) (Z0 : n0 ≤ h0.size) (O0 : Old Z n0 h0) (S0 : Sta Z Z.heap "com/example/causeway/causeway/server/HandoverWait" "RETRY_NANOS" "J" (.long 5000000000)) (hmd : (fl &&& (7 : Int32)) % (5 : Int32) = 4) (hgv : ¬ (fl &&& (8 : Int32)) = (0 : Int32)) :
    MetFree l x (head1 (Jvm.Cond.code x code maxLocals ret :: ws) room_1) (fun aR U => aR = #[(.long le), (.long st), (.long t1), (.long t2), (.long q), (.int fl)] ∧ Z.Warmed39 U.vm ∧ U.heap = h0) (fun _ _ _ _ _ => True) (fun _ U o U' => ∃ v L, o = .returned v ∧ Q0 h0 n0 v U'.heap L ∧ FrameEnd U o U' L room_1.cells room_1.slots) := by
  refine MetFree.of_bodySF (plainFor_of_name pn_0) hisR ?_
  intro p e s m args below meth c s₁ Bd hml0 hP hK
  obtain ⟨rfl, hZ, hhE⟩ := hP
  have hx := Bd.exec
  have hby := Bd.bytes
  have hml : c.maxLocals = 21 := hml0
  have hown : s.vm.findClass "com/example/causeway/causeway/server/HandoverWaitDuePinLaw" = some m.cls := findClass_of_methodNamed Bd.named
  have hnm := (name_of_methodNamed Bd.named Bd.method).1
  have X0 : Stand p l e room_1 s m #[(.long le), (.long st), (.long t1), (.long t2), (.long q), (.int fl)] below meth c s₁ [] 0 0 := Stand.of_body Bd
  have e0 : s₁.heap = h0 := by rw [← hhE, Bd.state]; rfl
  have N0 := Fr.nil n0
  show own_Go p e below (own_Post s (Q0 h0 n0) room_1.cells room_1.slots) (s₁.setTop (entryFrame m #[(.long le), (.long st), (.long t1), (.long t2), (.long q), (.int fl)] maxLocals))
  rw [ef_rm0_4_1]
  generalize hG : own_Post s (Q0 h0 n0) room_1.cells room_1.slots = G
  refine own_iload X0 hx (hb hby at_0) rfl 2 rfl ?_
  refine own_bipush X0 hx (hb hby at_2) (7 : Int32) rfl 4 rfl ?_
  refine own_iand X0 hx (hb hby at_4) 5 rfl ?_
  refine own_iconst X0 hx (hb hby at_5) (5 : Int32) rfl 6 rfl ?_
  refine own_irem X0 hx (hb hby at_6) (by decide) 7 rfl ?_
  generalize hy793 : ((fl &&& (7 : Int32)) % (5 : Int32)) = y793
  refine own_istore X0 hx (hb hby at_7) #[.val (.long le), .second, .val (.long st), .second, .val (.long t1), .second, .val (.long t2), .second, .val (.long q), .second, .val (.int fl), .val (.int y793), .unset, .unset, .unset, .unset, .unset, .unset, .unset, .unset, .unset] rfl 9 rfl ?_
  obtain rfl : y793 = 4 := hy793.symm.trans hmd
  refine own_iload X0 hx (hb hby at_9) rfl 11 rfl ?_
  refine own_bipush X0 hx (hb hby at_11) (8 : Int32) rfl 13 rfl ?_
  refine own_iand X0 hx (hb hby at_13) 14 rfl ?_
  refine own_ifN X0 hx (hb hby at_14) ((if0 _ _).trans (feq hgv).1) 17 rfl ?_
  refine own_iconst X0 hx (hb hby at_17) (1 : Int32) rfl 18 rfl ?_
  refine own_goto X0 hx (hb hby at_18) 22 ⟨by decide, by decide⟩ ?_
  refine own_istore X0 hx (hb hby at_22) #[.val (.long le), .second, .val (.long st), .second, .val (.long t1), .second, .val (.long t2), .second, .val (.long q), .second, .val (.int fl), .val (.int (4 : Int32)), .val (.int (1 : Int32)), .unset, .unset, .unset, .unset, .unset, .unset, .unset, .unset] rfl 24 rfl ?_
  refine own_iload X0 hx (hb hby at_24) rfl 26 rfl ?_
  refine own_bipush X0 hx (hb hby at_26) (16 : Int32) rfl 28 rfl ?_
  refine own_iand X0 hx (hb hby at_28) 29 rfl ?_
  by_cases c794 : (fl &&& (16 : Int32)) = (0 : Int32)
  ·
    refine own_ifY X0 hx (hb hby at_29) ((if0 _ _).trans (teq c794).1) 36 ⟨by decide, by decide⟩ ?_
    refine own_iconst X0 hx (hb hby at_36) (0 : Int32) rfl 37 rfl ?_
    refine own_istore X0 hx (hb hby at_37) #[.val (.long le), .second, .val (.long st), .second, .val (.long t1), .second, .val (.long t2), .second, .val (.long q), .second, .val (.int fl), .val (.int (4 : Int32)), .val (.int (1 : Int32)), .val (.int (0 : Int32)), .unset, .unset, .unset, .unset, .unset, .unset, .unset] rfl 39 rfl ?_
    refine own_newO X0 hx hZ hown (own_w hw 0 rfl) (own_w hw 1 rfl) (own_w hw 2 rfl) e0 (hb hby at_39) (by decide) (by decide) 42 rfl (fun T795 h795 a795 g795 X795 e795 E795 A795 D795 => ?_)
    have ge796 : n0 ≤ a795 := by rw [g795]; exact Z0
    have Z797 : n0 ≤ h795.size := Nat.le_trans Z0 E795.1
    have O799 := O0.ext E795
    have F800 : Fld Z h795 a795 "com/example/causeway/causeway/server/HandoverWait" "leaseNanos" "J" (.long (0 : Int64)) := D795 (Or.inr (own_w hw 10 rfl)) (ty := .long) (by decide)
    have F801 : Fld Z h795 a795 "com/example/causeway/causeway/server/HandoverWait" "waitNanos" "J" (.long (0 : Int64)) := D795 (Or.inl (own_w hw 12 rfl)) (ty := .long) (by decide)
    have F802 : Fld Z h795 a795 "com/example/causeway/causeway/server/HandoverWait" "retryAfter" "J" (.long (0 : Int64)) := D795 (Or.inl (own_w hw 14 rfl)) (ty := .long) (by decide)
    have F803 : Fld Z h795 a795 "com/example/causeway/causeway/server/HandoverWait" "caughtUp" "Z" (.int (0 : Int32)) := D795 (Or.inl (own_w hw 21 rfl)) (ty := .boolean) (by decide)
    have F804 : Fld Z h795 a795 "com/example/causeway/causeway/server/HandoverWait" "caughtUpSince" "J" (.long (0 : Int64)) := D795 (Or.inl (own_w hw 23 rfl)) (ty := .long) (by decide)
    have F805 : Fld Z h795 a795 "com/example/causeway/causeway/server/HandoverWait" "led" "Z" (.int (0 : Int32)) := D795 (Or.inl (own_w hw 43 rfl)) (ty := .boolean) (by decide)
    have F806 : Fld Z h795 a795 "com/example/causeway/causeway/server/HandoverWait" "ledSince" "J" (.long (0 : Int64)) := D795 (Or.inl (own_w hw 45 rfl)) (ty := .long) (by decide)
    have F807 : Fld Z h795 a795 "com/example/causeway/causeway/server/HandoverWait" "ledUntil" "J" (.long (0 : Int64)) := D795 (Or.inl (own_w hw 47 rfl)) (ty := .long) (by decide)
    refine own_dup X795 hx (hb hby at_42) rfl 43 rfl ?_
    refine own_lloadN X795 hx (hb hby at_43) rfl 44 rfl ?_
    refine own_lloadN X795 hx (hb hby at_44) rfl 45 rfl ?_
    refine own_callI X795 hx hZ rfl hown (own_w hw 3 rfl) (own_w hw 4 rfl) (own_w hw 2 rfl) (own_w hw 5 rfl) (by decide) e795 (rm1 l Z a0 hw [] a795 le st h795 n0 Z797 ge796 ⟨A795, F800, F801, F802, F803, F804, F805, F806, F807⟩) (by rw [hml]; rfl) pd_0 (argsL := [(.long le), (.long st)]) rfl (rest := [(.ref a795)]) rfl (hb hby at_45) 1 (Nat.le_of_eq rfl) (by decide) (by decide) (by decide) (by decide) 48 rfl (fun T808 L808 v808 X808 hQ808 => ?_)
    obtain ⟨rfl, N808, K808, E808, F0_808, F1_808, F2_808, F3_808, F4_808, F5_808, F6_808, F7_808⟩ := hQ808
    have N809 := Fr.app N0 N808
    have O811 := O799.keep K808 (allS ge796 all0)
    have Z812 : n0 ≤ T808.heap.size := Nat.le_trans Z797 K808.1
    show own_Go p e below G (T808.setTop (mkF m 48 #[.val (.long le), .second, .val (.long st), .second, .val (.long t1), .second, .val (.long t2), .second, .val (.long q), .second, .val (.int fl), .val (.int (4 : Int32)), .val (.int (1 : Int32)), .val (.int (0 : Int32)), .unset, .unset, .unset, .unset, .unset, .unset, .unset] [(.ref a795)]))
    refine own_astore X808 hx (hb hby at_48) rfl #[.val (.long le), .second, .val (.long st), .second, .val (.long t1), .second, .val (.long t2), .second, .val (.long q), .second, .val (.int fl), .val (.int (4 : Int32)), .val (.int (1 : Int32)), .val (.int (0 : Int32)), .val (.ref a795), .unset, .unset, .unset, .unset, .unset, .unset] rfl 50 rfl ?_
    refine own_iload X808 hx (hb hby at_50) rfl 52 rfl ?_
    refine own_ifY X808 hx (hb hby at_52) ((if0 _ _).trans (teq (by decide)).1) 64 ⟨by decide, by decide⟩ ?_
    refine own_iload X808 hx (hb hby at_64) rfl 66 rfl ?_
    refine own_iconst X808 hx (hb hby at_66) (1 : Int32) rfl 67 rfl ?_
    refine own_icmpN X808 hx (hb hby at_67) (flt (by decide)).1 70 rfl ?_
    refine own_aload X808 hx (hb hby at_70) rfl rfl 72 rfl ?_
    refine own_lload X808 hx (hb hby at_72) rfl 74 rfl ?_
    refine own_callV X808 hx hZ hown (own_w hw 15 rfl) (own_w hw 16 rfl) (own_w hw 18 rfl) (notFace_of_selects (args := #[]) (mvT hZ (own_w hw 18 rfl))) (own_w hw 17 rfl) (own_w hw 2 rfl) (own_w hw 19 rfl) (by decide) (rfl : T808.heap = T808.heap) E808 (rm2 l Z a0 hw [] a795 t1 le le st (0 : Int32) (0 : Int64) (0 : Int32) (0 : Int64) (0 : Int64) T808.heap n0 Z812 ge796 ⟨E808, F0_808, F1_808, F2_808, F3_808, F4_808, F5_808, F6_808, F7_808⟩) (by rw [hml]; rfl) pd_3 (argsL := [(.long t1)]) rfl (rest := []) rfl (hb hby at_74) 0 (Nat.le_of_eq rfl) (by decide) (by decide) (by decide) (by decide) 77 rfl (fun T813 L813 v813 X813 hQ813 => ?_)
    have hQ813 : v813 = none ∧ Fr n0 L813 ∧ Keep T808.heap T813.heap [a795] ∧ own_HW Z T813.heap a795 le le st (1 : Int32) t1 (0 : Int32) (0 : Int64) (0 : Int64) := hQ813
    obtain ⟨rfl, N813, K813, E813, F0_813, F1_813, F2_813, F3_813, F4_813, F5_813, F6_813, F7_813⟩ := hQ813
    have N814 := Fr.app N809 N813
    have O816 := O811.keep K813 (allS ge796 all0)
    have Z817 : n0 ≤ T813.heap.size := Nat.le_trans Z812 K813.1
    show own_Go p e below G (T813.setTop (mkF m 77 #[.val (.long le), .second, .val (.long st), .second, .val (.long t1), .second, .val (.long t2), .second, .val (.long q), .second, .val (.int fl), .val (.int (4 : Int32)), .val (.int (1 : Int32)), .val (.int (0 : Int32)), .val (.ref a795), .unset, .unset, .unset, .unset, .unset, .unset] []))
    refine own_iload X813 hx (hb hby at_77) rfl 79 rfl ?_
    refine own_iconst X813 hx (hb hby at_79) (2 : Int32) rfl 80 rfl ?_
    refine own_icmpY X813 hx (hb hby at_80) (feq (by decide)).2 90 ⟨by decide, by decide⟩ ?_
    refine own_iload X813 hx (hb hby at_90) rfl 92 rfl ?_
    refine own_iconst X813 hx (hb hby at_92) (3 : Int32) rfl 93 rfl ?_
    refine own_icmpN X813 hx (hb hby at_93) (flt (by decide)).1 96 rfl ?_
    refine own_aload X813 hx (hb hby at_96) rfl rfl 98 rfl ?_
    refine own_callV X813 hx hZ hown (own_w hw 48 rfl) (own_w hw 49 rfl) (own_w hw 51 rfl) (notFace_of_selects (args := #[]) (mvT hZ (own_w hw 51 rfl))) (own_w hw 50 rfl) (own_w hw 2 rfl) (own_w hw 52 rfl) (by decide) (rfl : T813.heap = T813.heap) E813 (rm3 l Z a0 hw [] a795 le le st (1 : Int32) t1 (0 : Int32) (0 : Int64) (0 : Int64) T813.heap n0 Z817 ge796 ⟨E813, F0_813, F1_813, F2_813, F3_813, F4_813, F5_813, F6_813, F7_813⟩) (by rw [hml]; rfl) pd_4 (argsL := []) rfl (rest := []) rfl (hb hby at_98) 0 (Nat.le_of_eq rfl) (by decide) (by decide) (by decide) (by decide) 101 rfl (fun T818 L818 v818 X818 hQ818 => ?_)
    have hQ818 : v818 = none ∧ Fr n0 L818 ∧ Keep T813.heap T818.heap [a795] ∧ own_HW Z T818.heap a795 le le st (0 : Int32) t1 (0 : Int32) (0 : Int64) (0 : Int64) := hQ818
    obtain ⟨rfl, N818, K818, E818, F0_818, F1_818, F2_818, F3_818, F4_818, F5_818, F6_818, F7_818⟩ := hQ818
    have N819 := Fr.app N814 N818
    have O821 := O816.keep K818 (allS ge796 all0)
    have Z822 : n0 ≤ T818.heap.size := Nat.le_trans Z817 K818.1
    show own_Go p e below G (T818.setTop (mkF m 101 #[.val (.long le), .second, .val (.long st), .second, .val (.long t1), .second, .val (.long t2), .second, .val (.long q), .second, .val (.int fl), .val (.int (4 : Int32)), .val (.int (1 : Int32)), .val (.int (0 : Int32)), .val (.ref a795), .unset, .unset, .unset, .unset, .unset, .unset] []))
    refine own_iload X818 hx (hb hby at_101) rfl 103 rfl ?_
    refine own_iconst X818 hx (hb hby at_103) (4 : Int32) rfl 104 rfl ?_
    refine own_icmpN X818 hx (hb hby at_104) (teq (by decide)).2 107 rfl ?_
    refine own_aload X818 hx (hb hby at_107) rfl rfl 109 rfl ?_
    refine own_lload X818 hx (hb hby at_109) rfl 111 rfl ?_
    refine own_callV X818 hx hZ hown (own_w hw 15 rfl) (own_w hw 16 rfl) (own_w hw 18 rfl) (notFace_of_selects (args := #[]) (mvT hZ (own_w hw 18 rfl))) (own_w hw 17 rfl) (own_w hw 2 rfl) (own_w hw 19 rfl) (by decide) (rfl : T818.heap = T818.heap) E818 (rm2 l Z a0 hw [] a795 t2 le le st (0 : Int32) t1 (0 : Int32) (0 : Int64) (0 : Int64) T818.heap n0 Z822 ge796 ⟨E818, F0_818, F1_818, F2_818, F3_818, F4_818, F5_818, F6_818, F7_818⟩) (by rw [hml]; rfl) pd_3 (argsL := [(.long t2)]) rfl (rest := []) rfl (hb hby at_111) 0 (Nat.le_of_eq rfl) (by decide) (by decide) (by decide) (by decide) 114 rfl (fun T823 L823 v823 X823 hQ823 => ?_)
    have hQ823 : v823 = none ∧ Fr n0 L823 ∧ Keep T818.heap T823.heap [a795] ∧ own_HW Z T823.heap a795 le le st (1 : Int32) t2 (0 : Int32) (0 : Int64) (0 : Int64) := hQ823
    obtain ⟨rfl, N823, K823, E823, F0_823, F1_823, F2_823, F3_823, F4_823, F5_823, F6_823, F7_823⟩ := hQ823
    have N824 := Fr.app N819 N823
    have O826 := O821.keep K823 (allS ge796 all0)
    have Z827 : n0 ≤ T823.heap.size := Nat.le_trans Z822 K823.1
    show own_Go p e below G (T823.setTop (mkF m 114 #[.val (.long le), .second, .val (.long st), .second, .val (.long t1), .second, .val (.long t2), .second, .val (.long q), .second, .val (.int fl), .val (.int (4 : Int32)), .val (.int (1 : Int32)), .val (.int (0 : Int32)), .val (.ref a795), .unset, .unset, .unset, .unset, .unset, .unset] []))
    refine own_iload X823 hx (hb hby at_114) rfl 116 rfl ?_
    refine own_ifN X823 hx (hb hby at_116) ((if0 _ _).trans (feq (by decide)).1) 119 rfl ?_
    refine own_aload X823 hx (hb hby at_119) rfl rfl 121 rfl ?_
    refine own_lloadN X823 hx (hb hby at_121) rfl 122 rfl ?_
    refine own_callV X823 hx hZ hown (own_w hw 29 rfl) (own_w hw 30 rfl) (own_w hw 32 rfl) (notFace_of_selects (args := #[]) (mvT hZ (own_w hw 32 rfl))) (own_w hw 31 rfl) (own_w hw 2 rfl) (own_w hw 33 rfl) (by decide) (rfl : T823.heap = T823.heap) E823 (rm5 l Z a0 hw [] a795 st le le st (1 : Int32) t2 (0 : Int32) (0 : Int64) (0 : Int64) T823.heap n0 Z827 ge796 ⟨E823, F0_823, F1_823, F2_823, F3_823, F4_823, F5_823, F6_823, F7_823⟩ O826 S0) (by rw [hml]; rfl) pd_3 (argsL := [(.long st)]) rfl (rest := []) rfl (hb hby at_122) 0 (Nat.le_of_eq rfl) (by decide) (by decide) (by decide) (by decide) 125 rfl (fun T828 L828 v828 X828 hQ828 => ?_)
    have hQ828 : v828 = none ∧ Fr n0 L828 ∧ Keep T823.heap T828.heap [a795] ∧ own_HW Z T828.heap a795 le le (st + 5000000000) (1 : Int32) t2 (0 : Int32) (0 : Int64) (0 : Int64) := hQ828
    obtain ⟨rfl, N828, K828, E828, F0_828, F1_828, F2_828, F3_828, F4_828, F5_828, F6_828, F7_828⟩ := hQ828
    have N829 := Fr.app N824 N828
    have O831 := O826.keep K828 (allS ge796 all0)
    have Z832 : n0 ≤ T828.heap.size := Nat.le_trans Z827 K828.1
    show own_Go p e below G (T828.setTop (mkF m 125 #[.val (.long le), .second, .val (.long st), .second, .val (.long t1), .second, .val (.long t2), .second, .val (.long q), .second, .val (.int fl), .val (.int (4 : Int32)), .val (.int (1 : Int32)), .val (.int (0 : Int32)), .val (.ref a795), .unset, .unset, .unset, .unset, .unset, .unset] []))
    refine own_iload X828 hx (hb hby at_125) rfl 127 rfl ?_
    refine own_iconst X828 hx (hb hby at_127) (1 : Int32) rfl 128 rfl ?_
    refine own_icmpN X828 hx (hb hby at_128) (feq (by decide)).1 131 rfl ?_
    refine own_iload X828 hx (hb hby at_131) rfl 133 rfl ?_
    refine own_iconst X828 hx (hb hby at_133) (2 : Int32) rfl 134 rfl ?_
    refine own_icmpN X828 hx (hb hby at_134) (feq (by decide)).1 137 rfl ?_
    refine own_iload X828 hx (hb hby at_137) rfl 139 rfl ?_
    refine own_iconst X828 hx (hb hby at_139) (4 : Int32) rfl 140 rfl ?_
    refine own_icmpN X828 hx (hb hby at_140) (teq (by decide)).2 143 rfl ?_
    refine own_iconst X828 hx (hb hby at_143) (1 : Int32) rfl 144 rfl ?_
    refine own_goto X828 hx (hb hby at_144) 148 ⟨by decide, by decide⟩ ?_
    refine own_istore X828 hx (hb hby at_148) #[.val (.long le), .second, .val (.long st), .second, .val (.long t1), .second, .val (.long t2), .second, .val (.long q), .second, .val (.int fl), .val (.int (4 : Int32)), .val (.int (1 : Int32)), .val (.int (0 : Int32)), .val (.ref a795), .val (.int (1 : Int32)), .unset, .unset, .unset, .unset, .unset] rfl 150 rfl ?_
    refine own_iload X828 hx (hb hby at_150) rfl 152 rfl ?_
    refine own_iconst X828 hx (hb hby at_152) (4 : Int32) rfl 153 rfl ?_
    refine own_icmpN X828 hx (hb hby at_153) (teq (by decide)).2 156 rfl ?_
    refine own_lload X828 hx (hb hby at_156) rfl 158 rfl ?_
    refine own_goto X828 hx (hb hby at_158) 163 ⟨by decide, by decide⟩ ?_
    refine own_lstore X828 hx (hb hby at_163) #[.val (.long le), .second, .val (.long st), .second, .val (.long t1), .second, .val (.long t2), .second, .val (.long q), .second, .val (.int fl), .val (.int (4 : Int32)), .val (.int (1 : Int32)), .val (.int (0 : Int32)), .val (.ref a795), .val (.int (1 : Int32)), .val (.long t2), .second, .unset, .unset, .unset] rfl 165 rfl ?_
    refine own_iload X828 hx (hb hby at_165) rfl 167 rfl ?_
    refine own_ifN X828 hx (hb hby at_167) ((if0 _ _).trans (feq (by decide)).1) 170 rfl ?_
    refine own_lloadN X828 hx (hb hby at_170) rfl 171 rfl ?_
    refine own_ldc2Long X828 hx hown (mvT hZ (own_w hw 36 rfl)) (hb hby at_171) 174 rfl ?_
    refine own_ladd X828 hx (hb hby at_174) 175 rfl ?_
    refine own_goto X828 hx (hb hby at_175) 179 ⟨by decide, by decide⟩ ?_
    refine own_lstore X828 hx (hb hby at_179) #[.val (.long le), .second, .val (.long st), .second, .val (.long t1), .second, .val (.long t2), .second, .val (.long q), .second, .val (.int fl), .val (.int (4 : Int32)), .val (.int (1 : Int32)), .val (.int (0 : Int32)), .val (.ref a795), .val (.int (1 : Int32)), .val (.long t2), .second, .val (.long (st + (5000000000 : Int64))), .second, .unset] rfl 181 rfl ?_
    suffices kj834 : ∀ u833 : Int32, u833 = own_due (1 : Int32) t2 le (st + (5000000000 : Int64)) q → own_Go p e below G (T828.setTop (mkF m 211 #[.val (.long le), .second, .val (.long st), .second, .val (.long t1), .second, .val (.long t2), .second, .val (.long q), .second, .val (.int fl), .val (.int (4 : Int32)), .val (.int (1 : Int32)), .val (.int (0 : Int32)), .val (.ref a795), .val (.int (1 : Int32)), .val (.long t2), .second, .val (.long (st + (5000000000 : Int64))), .second, .unset] [(.int u833)])) by
      refine own_iload X828 hx (hb hby at_181) rfl 183 rfl ?_
      refine own_ifN X828 hx (hb hby at_183) ((if0 _ _).trans (feq (by decide)).1) 186 rfl ?_
      refine own_lload X828 hx (hb hby at_186) rfl 188 rfl ?_
      refine own_lload X828 hx (hb hby at_188) rfl 190 rfl ?_
      refine own_lsub X828 hx (hb hby at_190) 191 rfl ?_
      refine own_lloadN X828 hx (hb hby at_191) rfl 192 rfl ?_
      refine own_lcmp X828 hx (hb hby at_192) 193 rfl ?_
      by_cases c835 : (q - t2) < le
      ·
        refine own_ifY X828 hx (hb hby at_193) (own_ltL c835).1 210 ⟨by decide, by decide⟩ ?_
        refine own_iconst X828 hx (hb hby at_210) (0 : Int32) rfl 211 rfl ?_
        exact kj834 (0 : Int32) (by simp [own_due, c794, c835])
      ·
        refine own_ifN X828 hx (hb hby at_193) (own_nltL c835).1 196 rfl ?_
        refine own_lload X828 hx (hb hby at_196) rfl 198 rfl ?_
        refine own_lload X828 hx (hb hby at_198) rfl 200 rfl ?_
        refine own_lsub X828 hx (hb hby at_200) 201 rfl ?_
        refine own_lconst X828 hx (hb hby at_201) (0 : Int64) rfl 202 rfl ?_
        refine own_lcmp X828 hx (hb hby at_202) 203 rfl ?_
        by_cases c836 : (q - (st + (5000000000 : Int64))) < (0 : Int64)
        ·
          refine own_ifY X828 hx (hb hby at_203) (own_ltL c836).1 210 ⟨by decide, by decide⟩ ?_
          refine own_iconst X828 hx (hb hby at_210) (0 : Int32) rfl 211 rfl ?_
          exact kj834 (0 : Int32) (by simp [own_due, c794, c835, c836])
        ·
          refine own_ifN X828 hx (hb hby at_203) (own_nltL c836).1 206 rfl ?_
          refine own_iconst X828 hx (hb hby at_206) (1 : Int32) rfl 207 rfl ?_
          refine own_goto X828 hx (hb hby at_207) 211 ⟨by decide, by decide⟩ ?_
          exact kj834 (1 : Int32) (by simp [own_due, c794, c835, c836])
    intro u833 hu833
    refine own_istore X828 hx (hb hby at_211) #[.val (.long le), .second, .val (.long st), .second, .val (.long t1), .second, .val (.long t2), .second, .val (.long q), .second, .val (.int fl), .val (.int (4 : Int32)), .val (.int (1 : Int32)), .val (.int (0 : Int32)), .val (.ref a795), .val (.int (1 : Int32)), .val (.long t2), .second, .val (.long (st + (5000000000 : Int64))), .second, .val (.int u833)] rfl 213 rfl ?_
    refine own_aload X828 hx (hb hby at_213) rfl rfl 215 rfl ?_
    refine own_lload X828 hx (hb hby at_215) rfl 217 rfl ?_
    refine own_callV X828 hx hZ hown (own_w hw 24 rfl) (own_w hw 25 rfl) (own_w hw 27 rfl) (notFace_of_selects (args := #[]) (mvT hZ (own_w hw 27 rfl))) (own_w hw 26 rfl) (own_w hw 2 rfl) (own_w hw 28 rfl) (by decide) (rfl : T828.heap = T828.heap) E828 (rm4 l Z a0 hw [] a795 q le le (st + 5000000000) (1 : Int32) t2 (0 : Int32) (0 : Int64) (0 : Int64) T828.heap n0 Z832 ge796 ⟨E828, F0_828, F1_828, F2_828, F3_828, F4_828, F5_828, F6_828, F7_828⟩) (by rw [hml]; rfl) pd_1 (argsL := [(.long q)]) rfl (rest := []) rfl (hb hby at_217) 0 (Nat.le_of_eq rfl) (by decide) (by decide) (by decide) (by decide) 220 rfl (fun T837 L837 v837 X837 hQ837 => ?_)
    obtain ⟨rfl, N837, e837⟩ := hQ837
    have N838 := Fr.app N829 N837
    show own_Go p e below G (T837.setTop (mkF m 220 #[.val (.long le), .second, .val (.long st), .second, .val (.long t1), .second, .val (.long t2), .second, .val (.long q), .second, .val (.int fl), .val (.int (4 : Int32)), .val (.int (1 : Int32)), .val (.int (0 : Int32)), .val (.ref a795), .val (.int (1 : Int32)), .val (.long t2), .second, .val (.long (st + (5000000000 : Int64))), .second, .val (.int u833)] [(.int (own_due (1 : Int32) t2 le (st + 5000000000) q))]))
    refine own_iload X837 hx (hb hby at_220) rfl 222 rfl ?_
    refine own_icmpN X837 hx (hb hby at_222) (teq (by subst hu833; simp [own_due])).2 225 rfl ?_
    refine own_iconst X837 hx (hb hby at_225) (1 : Int32) rfl 226 rfl ?_
    refine own_goto X837 hx (hb hby at_226) 230 ⟨by decide, by decide⟩ ?_
    refine own_nreturn X837 hx Bd.notSynchronized hG Bd.returns (by simp) (hb hby at_230) (by decide) (by decide) ?_
    rw [e837]
    exact ⟨rfl, N838⟩
  ·
    refine own_ifN X0 hx (hb hby at_29) ((if0 _ _).trans (feq c794).1) 32 rfl ?_
    refine own_iconst X0 hx (hb hby at_32) (1 : Int32) rfl 33 rfl ?_
    refine own_goto X0 hx (hb hby at_33) 37 ⟨by decide, by decide⟩ ?_
    refine own_istore X0 hx (hb hby at_37) #[.val (.long le), .second, .val (.long st), .second, .val (.long t1), .second, .val (.long t2), .second, .val (.long q), .second, .val (.int fl), .val (.int (4 : Int32)), .val (.int (1 : Int32)), .val (.int (1 : Int32)), .unset, .unset, .unset, .unset, .unset, .unset, .unset] rfl 39 rfl ?_
    refine own_newO X0 hx hZ hown (own_w hw 0 rfl) (own_w hw 1 rfl) (own_w hw 2 rfl) e0 (hb hby at_39) (by decide) (by decide) 42 rfl (fun T839 h839 a839 g839 X839 e839 E839 A839 D839 => ?_)
    have ge840 : n0 ≤ a839 := by rw [g839]; exact Z0
    have Z841 : n0 ≤ h839.size := Nat.le_trans Z0 E839.1
    have O843 := O0.ext E839
    have F844 : Fld Z h839 a839 "com/example/causeway/causeway/server/HandoverWait" "leaseNanos" "J" (.long (0 : Int64)) := D839 (Or.inr (own_w hw 10 rfl)) (ty := .long) (by decide)
    have F845 : Fld Z h839 a839 "com/example/causeway/causeway/server/HandoverWait" "waitNanos" "J" (.long (0 : Int64)) := D839 (Or.inl (own_w hw 12 rfl)) (ty := .long) (by decide)
    have F846 : Fld Z h839 a839 "com/example/causeway/causeway/server/HandoverWait" "retryAfter" "J" (.long (0 : Int64)) := D839 (Or.inl (own_w hw 14 rfl)) (ty := .long) (by decide)
    have F847 : Fld Z h839 a839 "com/example/causeway/causeway/server/HandoverWait" "caughtUp" "Z" (.int (0 : Int32)) := D839 (Or.inl (own_w hw 21 rfl)) (ty := .boolean) (by decide)
    have F848 : Fld Z h839 a839 "com/example/causeway/causeway/server/HandoverWait" "caughtUpSince" "J" (.long (0 : Int64)) := D839 (Or.inl (own_w hw 23 rfl)) (ty := .long) (by decide)
    have F849 : Fld Z h839 a839 "com/example/causeway/causeway/server/HandoverWait" "led" "Z" (.int (0 : Int32)) := D839 (Or.inl (own_w hw 43 rfl)) (ty := .boolean) (by decide)
    have F850 : Fld Z h839 a839 "com/example/causeway/causeway/server/HandoverWait" "ledSince" "J" (.long (0 : Int64)) := D839 (Or.inl (own_w hw 45 rfl)) (ty := .long) (by decide)
    have F851 : Fld Z h839 a839 "com/example/causeway/causeway/server/HandoverWait" "ledUntil" "J" (.long (0 : Int64)) := D839 (Or.inl (own_w hw 47 rfl)) (ty := .long) (by decide)
    refine own_dup X839 hx (hb hby at_42) rfl 43 rfl ?_
    refine own_lloadN X839 hx (hb hby at_43) rfl 44 rfl ?_
    refine own_lloadN X839 hx (hb hby at_44) rfl 45 rfl ?_
    refine own_callI X839 hx hZ rfl hown (own_w hw 3 rfl) (own_w hw 4 rfl) (own_w hw 2 rfl) (own_w hw 5 rfl) (by decide) e839 (rm1 l Z a0 hw [] a839 le st h839 n0 Z841 ge840 ⟨A839, F844, F845, F846, F847, F848, F849, F850, F851⟩) (by rw [hml]; rfl) pd_0 (argsL := [(.long le), (.long st)]) rfl (rest := [(.ref a839)]) rfl (hb hby at_45) 1 (Nat.le_of_eq rfl) (by decide) (by decide) (by decide) (by decide) 48 rfl (fun T852 L852 v852 X852 hQ852 => ?_)
    obtain ⟨rfl, N852, K852, E852, F0_852, F1_852, F2_852, F3_852, F4_852, F5_852, F6_852, F7_852⟩ := hQ852
    have N853 := Fr.app N0 N852
    have O855 := O843.keep K852 (allS ge840 all0)
    have Z856 : n0 ≤ T852.heap.size := Nat.le_trans Z841 K852.1
    show own_Go p e below G (T852.setTop (mkF m 48 #[.val (.long le), .second, .val (.long st), .second, .val (.long t1), .second, .val (.long t2), .second, .val (.long q), .second, .val (.int fl), .val (.int (4 : Int32)), .val (.int (1 : Int32)), .val (.int (1 : Int32)), .unset, .unset, .unset, .unset, .unset, .unset, .unset] [(.ref a839)]))
    refine own_astore X852 hx (hb hby at_48) rfl #[.val (.long le), .second, .val (.long st), .second, .val (.long t1), .second, .val (.long t2), .second, .val (.long q), .second, .val (.int fl), .val (.int (4 : Int32)), .val (.int (1 : Int32)), .val (.int (1 : Int32)), .val (.ref a839), .unset, .unset, .unset, .unset, .unset, .unset] rfl 50 rfl ?_
    refine own_iload X852 hx (hb hby at_50) rfl 52 rfl ?_
    refine own_ifN X852 hx (hb hby at_52) ((if0 _ _).trans (feq (by decide)).1) 55 rfl ?_
    refine own_aload X852 hx (hb hby at_55) rfl rfl 57 rfl ?_
    refine own_iconst X852 hx (hb hby at_57) (1 : Int32) rfl 58 rfl ?_
    refine own_lload X852 hx (hb hby at_58) rfl 60 rfl ?_
    refine own_callV X852 hx hZ hown (own_w hw 37 rfl) (own_w hw 38 rfl) (own_w hw 40 rfl) (notFace_of_selects (args := #[]) (mvT hZ (own_w hw 40 rfl))) (own_w hw 39 rfl) (own_w hw 2 rfl) (own_w hw 41 rfl) (by decide) (rfl : T852.heap = T852.heap) E852 (rm6 l Z a0 hw [] a839 t1 le le st (0 : Int32) (0 : Int64) (0 : Int64) (0 : Int64) T852.heap n0 Z856 ge840 ⟨E852, F0_852, F1_852, F2_852, F3_852, F4_852, F5_852, F6_852, F7_852⟩) (by rw [hml]; rfl) pd_2 (argsL := [(.int (1 : Int32)), (.long t1)]) rfl (rest := []) rfl (hb hby at_60) 0 (Nat.le_of_eq rfl) (by decide) (by decide) (by decide) (by decide) 63 rfl (fun T857 L857 v857 X857 hQ857 => ?_)
    have hQ857 : v857 = some (.int (0 : Int32)) ∧ Fr n0 L857 ∧ Keep T852.heap T857.heap [a839] ∧ own_HW Z T857.heap a839 le le st (0 : Int32) (0 : Int64) (1 : Int32) t1 t1 := hQ857
    obtain ⟨rfl, N857, K857, E857, F0_857, F1_857, F2_857, F3_857, F4_857, F5_857, F6_857, F7_857⟩ := hQ857
    have N858 := Fr.app N853 N857
    have O860 := O855.keep K857 (allS ge840 all0)
    have Z861 : n0 ≤ T857.heap.size := Nat.le_trans Z856 K857.1
    show own_Go p e below G (T857.setTop (mkF m 63 #[.val (.long le), .second, .val (.long st), .second, .val (.long t1), .second, .val (.long t2), .second, .val (.long q), .second, .val (.int fl), .val (.int (4 : Int32)), .val (.int (1 : Int32)), .val (.int (1 : Int32)), .val (.ref a839), .unset, .unset, .unset, .unset, .unset, .unset] [(.int (0 : Int32))]))
    refine own_pop X857 hx (hb hby at_63) rfl 64 rfl ?_
    refine own_iload X857 hx (hb hby at_64) rfl 66 rfl ?_
    refine own_iconst X857 hx (hb hby at_66) (1 : Int32) rfl 67 rfl ?_
    refine own_icmpN X857 hx (hb hby at_67) (flt (by decide)).1 70 rfl ?_
    refine own_aload X857 hx (hb hby at_70) rfl rfl 72 rfl ?_
    refine own_lload X857 hx (hb hby at_72) rfl 74 rfl ?_
    refine own_callV X857 hx hZ hown (own_w hw 15 rfl) (own_w hw 16 rfl) (own_w hw 18 rfl) (notFace_of_selects (args := #[]) (mvT hZ (own_w hw 18 rfl))) (own_w hw 17 rfl) (own_w hw 2 rfl) (own_w hw 19 rfl) (by decide) (rfl : T857.heap = T857.heap) E857 (rm2 l Z a0 hw [] a839 t1 le le st (0 : Int32) (0 : Int64) (1 : Int32) t1 t1 T857.heap n0 Z861 ge840 ⟨E857, F0_857, F1_857, F2_857, F3_857, F4_857, F5_857, F6_857, F7_857⟩) (by rw [hml]; rfl) pd_3 (argsL := [(.long t1)]) rfl (rest := []) rfl (hb hby at_74) 0 (Nat.le_of_eq rfl) (by decide) (by decide) (by decide) (by decide) 77 rfl (fun T862 L862 v862 X862 hQ862 => ?_)
    have hQ862 : v862 = none ∧ Fr n0 L862 ∧ Keep T857.heap T862.heap [a839] ∧ own_HW Z T862.heap a839 le le st (1 : Int32) t1 (1 : Int32) t1 t1 := hQ862
    obtain ⟨rfl, N862, K862, E862, F0_862, F1_862, F2_862, F3_862, F4_862, F5_862, F6_862, F7_862⟩ := hQ862
    have N863 := Fr.app N858 N862
    have O865 := O860.keep K862 (allS ge840 all0)
    have Z866 : n0 ≤ T862.heap.size := Nat.le_trans Z861 K862.1
    show own_Go p e below G (T862.setTop (mkF m 77 #[.val (.long le), .second, .val (.long st), .second, .val (.long t1), .second, .val (.long t2), .second, .val (.long q), .second, .val (.int fl), .val (.int (4 : Int32)), .val (.int (1 : Int32)), .val (.int (1 : Int32)), .val (.ref a839), .unset, .unset, .unset, .unset, .unset, .unset] []))
    refine own_iload X862 hx (hb hby at_77) rfl 79 rfl ?_
    refine own_iconst X862 hx (hb hby at_79) (2 : Int32) rfl 80 rfl ?_
    refine own_icmpY X862 hx (hb hby at_80) (feq (by decide)).2 90 ⟨by decide, by decide⟩ ?_
    refine own_iload X862 hx (hb hby at_90) rfl 92 rfl ?_
    refine own_iconst X862 hx (hb hby at_92) (3 : Int32) rfl 93 rfl ?_
    refine own_icmpN X862 hx (hb hby at_93) (flt (by decide)).1 96 rfl ?_
    refine own_aload X862 hx (hb hby at_96) rfl rfl 98 rfl ?_
    refine own_callV X862 hx hZ hown (own_w hw 48 rfl) (own_w hw 49 rfl) (own_w hw 51 rfl) (notFace_of_selects (args := #[]) (mvT hZ (own_w hw 51 rfl))) (own_w hw 50 rfl) (own_w hw 2 rfl) (own_w hw 52 rfl) (by decide) (rfl : T862.heap = T862.heap) E862 (rm3 l Z a0 hw [] a839 le le st (1 : Int32) t1 (1 : Int32) t1 t1 T862.heap n0 Z866 ge840 ⟨E862, F0_862, F1_862, F2_862, F3_862, F4_862, F5_862, F6_862, F7_862⟩) (by rw [hml]; rfl) pd_4 (argsL := []) rfl (rest := []) rfl (hb hby at_98) 0 (Nat.le_of_eq rfl) (by decide) (by decide) (by decide) (by decide) 101 rfl (fun T867 L867 v867 X867 hQ867 => ?_)
    have hQ867 : v867 = none ∧ Fr n0 L867 ∧ Keep T862.heap T867.heap [a839] ∧ own_HW Z T867.heap a839 le le st (0 : Int32) t1 (1 : Int32) t1 t1 := hQ867
    obtain ⟨rfl, N867, K867, E867, F0_867, F1_867, F2_867, F3_867, F4_867, F5_867, F6_867, F7_867⟩ := hQ867
    have N868 := Fr.app N863 N867
    have O870 := O865.keep K867 (allS ge840 all0)
    have Z871 : n0 ≤ T867.heap.size := Nat.le_trans Z866 K867.1
    show own_Go p e below G (T867.setTop (mkF m 101 #[.val (.long le), .second, .val (.long st), .second, .val (.long t1), .second, .val (.long t2), .second, .val (.long q), .second, .val (.int fl), .val (.int (4 : Int32)), .val (.int (1 : Int32)), .val (.int (1 : Int32)), .val (.ref a839), .unset, .unset, .unset, .unset, .unset, .unset] []))
    refine own_iload X867 hx (hb hby at_101) rfl 103 rfl ?_
    refine own_iconst X867 hx (hb hby at_103) (4 : Int32) rfl 104 rfl ?_
    refine own_icmpN X867 hx (hb hby at_104) (teq (by decide)).2 107 rfl ?_
    refine own_aload X867 hx (hb hby at_107) rfl rfl 109 rfl ?_
    refine own_lload X867 hx (hb hby at_109) rfl 111 rfl ?_
    refine own_callV X867 hx hZ hown (own_w hw 15 rfl) (own_w hw 16 rfl) (own_w hw 18 rfl) (notFace_of_selects (args := #[]) (mvT hZ (own_w hw 18 rfl))) (own_w hw 17 rfl) (own_w hw 2 rfl) (own_w hw 19 rfl) (by decide) (rfl : T867.heap = T867.heap) E867 (rm2 l Z a0 hw [] a839 t2 le le st (0 : Int32) t1 (1 : Int32) t1 t1 T867.heap n0 Z871 ge840 ⟨E867, F0_867, F1_867, F2_867, F3_867, F4_867, F5_867, F6_867, F7_867⟩) (by rw [hml]; rfl) pd_3 (argsL := [(.long t2)]) rfl (rest := []) rfl (hb hby at_111) 0 (Nat.le_of_eq rfl) (by decide) (by decide) (by decide) (by decide) 114 rfl (fun T872 L872 v872 X872 hQ872 => ?_)
    have hQ872 : v872 = none ∧ Fr n0 L872 ∧ Keep T867.heap T872.heap [a839] ∧ own_HW Z T872.heap a839 le le st (1 : Int32) t2 (1 : Int32) t1 t1 := hQ872
    obtain ⟨rfl, N872, K872, E872, F0_872, F1_872, F2_872, F3_872, F4_872, F5_872, F6_872, F7_872⟩ := hQ872
    have N873 := Fr.app N868 N872
    have O875 := O870.keep K872 (allS ge840 all0)
    have Z876 : n0 ≤ T872.heap.size := Nat.le_trans Z871 K872.1
    show own_Go p e below G (T872.setTop (mkF m 114 #[.val (.long le), .second, .val (.long st), .second, .val (.long t1), .second, .val (.long t2), .second, .val (.long q), .second, .val (.int fl), .val (.int (4 : Int32)), .val (.int (1 : Int32)), .val (.int (1 : Int32)), .val (.ref a839), .unset, .unset, .unset, .unset, .unset, .unset] []))
    refine own_iload X872 hx (hb hby at_114) rfl 116 rfl ?_
    refine own_ifN X872 hx (hb hby at_116) ((if0 _ _).trans (feq (by decide)).1) 119 rfl ?_
    refine own_aload X872 hx (hb hby at_119) rfl rfl 121 rfl ?_
    refine own_lloadN X872 hx (hb hby at_121) rfl 122 rfl ?_
    refine own_callV X872 hx hZ hown (own_w hw 29 rfl) (own_w hw 30 rfl) (own_w hw 32 rfl) (notFace_of_selects (args := #[]) (mvT hZ (own_w hw 32 rfl))) (own_w hw 31 rfl) (own_w hw 2 rfl) (own_w hw 33 rfl) (by decide) (rfl : T872.heap = T872.heap) E872 (rm5 l Z a0 hw [] a839 st le le st (1 : Int32) t2 (1 : Int32) t1 t1 T872.heap n0 Z876 ge840 ⟨E872, F0_872, F1_872, F2_872, F3_872, F4_872, F5_872, F6_872, F7_872⟩ O875 S0) (by rw [hml]; rfl) pd_3 (argsL := [(.long st)]) rfl (rest := []) rfl (hb hby at_122) 0 (Nat.le_of_eq rfl) (by decide) (by decide) (by decide) (by decide) 125 rfl (fun T877 L877 v877 X877 hQ877 => ?_)
    have hQ877 : v877 = none ∧ Fr n0 L877 ∧ Keep T872.heap T877.heap [a839] ∧ own_HW Z T877.heap a839 le le (st + 5000000000) (1 : Int32) t2 (1 : Int32) t1 t1 := hQ877
    obtain ⟨rfl, N877, K877, E877, F0_877, F1_877, F2_877, F3_877, F4_877, F5_877, F6_877, F7_877⟩ := hQ877
    have N878 := Fr.app N873 N877
    have O880 := O875.keep K877 (allS ge840 all0)
    have Z881 : n0 ≤ T877.heap.size := Nat.le_trans Z876 K877.1
    show own_Go p e below G (T877.setTop (mkF m 125 #[.val (.long le), .second, .val (.long st), .second, .val (.long t1), .second, .val (.long t2), .second, .val (.long q), .second, .val (.int fl), .val (.int (4 : Int32)), .val (.int (1 : Int32)), .val (.int (1 : Int32)), .val (.ref a839), .unset, .unset, .unset, .unset, .unset, .unset] []))
    refine own_iload X877 hx (hb hby at_125) rfl 127 rfl ?_
    refine own_iconst X877 hx (hb hby at_127) (1 : Int32) rfl 128 rfl ?_
    refine own_icmpN X877 hx (hb hby at_128) (feq (by decide)).1 131 rfl ?_
    refine own_iload X877 hx (hb hby at_131) rfl 133 rfl ?_
    refine own_iconst X877 hx (hb hby at_133) (2 : Int32) rfl 134 rfl ?_
    refine own_icmpN X877 hx (hb hby at_134) (feq (by decide)).1 137 rfl ?_
    refine own_iload X877 hx (hb hby at_137) rfl 139 rfl ?_
    refine own_iconst X877 hx (hb hby at_139) (4 : Int32) rfl 140 rfl ?_
    refine own_icmpN X877 hx (hb hby at_140) (teq (by decide)).2 143 rfl ?_
    refine own_iconst X877 hx (hb hby at_143) (1 : Int32) rfl 144 rfl ?_
    refine own_goto X877 hx (hb hby at_144) 148 ⟨by decide, by decide⟩ ?_
    refine own_istore X877 hx (hb hby at_148) #[.val (.long le), .second, .val (.long st), .second, .val (.long t1), .second, .val (.long t2), .second, .val (.long q), .second, .val (.int fl), .val (.int (4 : Int32)), .val (.int (1 : Int32)), .val (.int (1 : Int32)), .val (.ref a839), .val (.int (1 : Int32)), .unset, .unset, .unset, .unset, .unset] rfl 150 rfl ?_
    refine own_iload X877 hx (hb hby at_150) rfl 152 rfl ?_
    refine own_iconst X877 hx (hb hby at_152) (4 : Int32) rfl 153 rfl ?_
    refine own_icmpN X877 hx (hb hby at_153) (teq (by decide)).2 156 rfl ?_
    refine own_lload X877 hx (hb hby at_156) rfl 158 rfl ?_
    refine own_goto X877 hx (hb hby at_158) 163 ⟨by decide, by decide⟩ ?_
    refine own_lstore X877 hx (hb hby at_163) #[.val (.long le), .second, .val (.long st), .second, .val (.long t1), .second, .val (.long t2), .second, .val (.long q), .second, .val (.int fl), .val (.int (4 : Int32)), .val (.int (1 : Int32)), .val (.int (1 : Int32)), .val (.ref a839), .val (.int (1 : Int32)), .val (.long t2), .second, .unset, .unset, .unset] rfl 165 rfl ?_
    refine own_iload X877 hx (hb hby at_165) rfl 167 rfl ?_
    refine own_ifN X877 hx (hb hby at_167) ((if0 _ _).trans (feq (by decide)).1) 170 rfl ?_
    refine own_lloadN X877 hx (hb hby at_170) rfl 171 rfl ?_
    refine own_ldc2Long X877 hx hown (mvT hZ (own_w hw 36 rfl)) (hb hby at_171) 174 rfl ?_
    refine own_ladd X877 hx (hb hby at_174) 175 rfl ?_
    refine own_goto X877 hx (hb hby at_175) 179 ⟨by decide, by decide⟩ ?_
    refine own_lstore X877 hx (hb hby at_179) #[.val (.long le), .second, .val (.long st), .second, .val (.long t1), .second, .val (.long t2), .second, .val (.long q), .second, .val (.int fl), .val (.int (4 : Int32)), .val (.int (1 : Int32)), .val (.int (1 : Int32)), .val (.ref a839), .val (.int (1 : Int32)), .val (.long t2), .second, .val (.long (st + (5000000000 : Int64))), .second, .unset] rfl 181 rfl ?_
    suffices kj883 : ∀ u882 : Int32, u882 = own_due (1 : Int32) t2 le (st + (5000000000 : Int64)) q → own_Go p e below G (T877.setTop (mkF m 211 #[.val (.long le), .second, .val (.long st), .second, .val (.long t1), .second, .val (.long t2), .second, .val (.long q), .second, .val (.int fl), .val (.int (4 : Int32)), .val (.int (1 : Int32)), .val (.int (1 : Int32)), .val (.ref a839), .val (.int (1 : Int32)), .val (.long t2), .second, .val (.long (st + (5000000000 : Int64))), .second, .unset] [(.int u882)])) by
      refine own_iload X877 hx (hb hby at_181) rfl 183 rfl ?_
      refine own_ifN X877 hx (hb hby at_183) ((if0 _ _).trans (feq (by decide)).1) 186 rfl ?_
      refine own_lload X877 hx (hb hby at_186) rfl 188 rfl ?_
      refine own_lload X877 hx (hb hby at_188) rfl 190 rfl ?_
      refine own_lsub X877 hx (hb hby at_190) 191 rfl ?_
      refine own_lloadN X877 hx (hb hby at_191) rfl 192 rfl ?_
      refine own_lcmp X877 hx (hb hby at_192) 193 rfl ?_
      by_cases c884 : (q - t2) < le
      ·
        refine own_ifY X877 hx (hb hby at_193) (own_ltL c884).1 210 ⟨by decide, by decide⟩ ?_
        refine own_iconst X877 hx (hb hby at_210) (0 : Int32) rfl 211 rfl ?_
        exact kj883 (0 : Int32) (by simp [own_due, c794, c884])
      ·
        refine own_ifN X877 hx (hb hby at_193) (own_nltL c884).1 196 rfl ?_
        refine own_lload X877 hx (hb hby at_196) rfl 198 rfl ?_
        refine own_lload X877 hx (hb hby at_198) rfl 200 rfl ?_
        refine own_lsub X877 hx (hb hby at_200) 201 rfl ?_
        refine own_lconst X877 hx (hb hby at_201) (0 : Int64) rfl 202 rfl ?_
        refine own_lcmp X877 hx (hb hby at_202) 203 rfl ?_
        by_cases c885 : (q - (st + (5000000000 : Int64))) < (0 : Int64)
        ·
          refine own_ifY X877 hx (hb hby at_203) (own_ltL c885).1 210 ⟨by decide, by decide⟩ ?_
          refine own_iconst X877 hx (hb hby at_210) (0 : Int32) rfl 211 rfl ?_
          exact kj883 (0 : Int32) (by simp [own_due, c794, c884, c885])
        ·
          refine own_ifN X877 hx (hb hby at_203) (own_nltL c885).1 206 rfl ?_
          refine own_iconst X877 hx (hb hby at_206) (1 : Int32) rfl 207 rfl ?_
          refine own_goto X877 hx (hb hby at_207) 211 ⟨by decide, by decide⟩ ?_
          exact kj883 (1 : Int32) (by simp [own_due, c794, c884, c885])
    intro u882 hu882
    refine own_istore X877 hx (hb hby at_211) #[.val (.long le), .second, .val (.long st), .second, .val (.long t1), .second, .val (.long t2), .second, .val (.long q), .second, .val (.int fl), .val (.int (4 : Int32)), .val (.int (1 : Int32)), .val (.int (1 : Int32)), .val (.ref a839), .val (.int (1 : Int32)), .val (.long t2), .second, .val (.long (st + (5000000000 : Int64))), .second, .val (.int u882)] rfl 213 rfl ?_
    refine own_aload X877 hx (hb hby at_213) rfl rfl 215 rfl ?_
    refine own_lload X877 hx (hb hby at_215) rfl 217 rfl ?_
    refine own_callV X877 hx hZ hown (own_w hw 24 rfl) (own_w hw 25 rfl) (own_w hw 27 rfl) (notFace_of_selects (args := #[]) (mvT hZ (own_w hw 27 rfl))) (own_w hw 26 rfl) (own_w hw 2 rfl) (own_w hw 28 rfl) (by decide) (rfl : T877.heap = T877.heap) E877 (rm4 l Z a0 hw [] a839 q le le (st + 5000000000) (1 : Int32) t2 (1 : Int32) t1 t1 T877.heap n0 Z881 ge840 ⟨E877, F0_877, F1_877, F2_877, F3_877, F4_877, F5_877, F6_877, F7_877⟩) (by rw [hml]; rfl) pd_1 (argsL := [(.long q)]) rfl (rest := []) rfl (hb hby at_217) 0 (Nat.le_of_eq rfl) (by decide) (by decide) (by decide) (by decide) 220 rfl (fun T886 L886 v886 X886 hQ886 => ?_)
    obtain ⟨rfl, N886, e886⟩ := hQ886
    have N887 := Fr.app N878 N886
    show own_Go p e below G (T886.setTop (mkF m 220 #[.val (.long le), .second, .val (.long st), .second, .val (.long t1), .second, .val (.long t2), .second, .val (.long q), .second, .val (.int fl), .val (.int (4 : Int32)), .val (.int (1 : Int32)), .val (.int (1 : Int32)), .val (.ref a839), .val (.int (1 : Int32)), .val (.long t2), .second, .val (.long (st + (5000000000 : Int64))), .second, .val (.int u882)] [(.int (own_due (1 : Int32) t2 le (st + 5000000000) q))]))
    refine own_iload X886 hx (hb hby at_220) rfl 222 rfl ?_
    refine own_icmpN X886 hx (hb hby at_222) (teq (by subst hu882; simp [own_due])).2 225 rfl ?_
    refine own_iconst X886 hx (hb hby at_225) (1 : Int32) rfl 226 rfl ?_
    refine own_goto X886 hx (hb hby at_226) 230 ⟨by decide, by decide⟩ ?_
    refine own_nreturn X886 hx Bd.notSynchronized hG Bd.returns (by simp) (hb hby at_230) (by decide) (by decide) ?_
    rw [e886]
    exact ⟨rfl, N887⟩
theorem rm0 (l : Launch) (Z : State) (a0 : Array Value) (hw : ∀ d ∈ tables_1, d.before a0 Z = true) (ws : List Jvm.Cond) (le st t1 t2 q : Int64) (fl : Int32) (h0 : Heap) (n0 : Nat) (Z0 : n0 ≤ h0.size) (O0 : Old Z n0 h0) (S0 : Sta Z Z.heap "com/example/causeway/causeway/server/HandoverWait" "RETRY_NANOS" "J" (.long 5000000000)) :
    MetFree l x (head1 (Jvm.Cond.code x code maxLocals ret :: ws) room_1) (fun aR U => aR = #[(.long le), (.long st), (.long t1), (.long t2), (.long q), (.int fl)] ∧ Z.Warmed39 U.vm ∧ U.heap = h0) (fun _ _ _ _ _ => True) (fun _ U o U' => ∃ v L, o = .returned v ∧ Q0 h0 n0 v U'.heap L ∧ FrameEnd U o U' L room_1.cells room_1.slots) := by
  by_cases hgv : (fl &&& (8 : Int32)) = (0 : Int32)
  · rcases own_mode fl with h | h | h | h | h
    · exact rm0_0_0 l Z a0 hw ws le st t1 t2 q fl h0 n0 Z0 O0 S0 h hgv
    · exact rm0_1_0 l Z a0 hw ws le st t1 t2 q fl h0 n0 Z0 O0 S0 h hgv
    · exact rm0_2_0 l Z a0 hw ws le st t1 t2 q fl h0 n0 Z0 O0 S0 h hgv
    · exact rm0_3_0 l Z a0 hw ws le st t1 t2 q fl h0 n0 Z0 O0 S0 h hgv
    · exact rm0_4_0 l Z a0 hw ws le st t1 t2 q fl h0 n0 Z0 O0 S0 h hgv
  · rcases own_mode fl with h | h | h | h | h
    · exact rm0_0_1 l Z a0 hw ws le st t1 t2 q fl h0 n0 Z0 O0 S0 h hgv
    · exact rm0_1_1 l Z a0 hw ws le st t1 t2 q fl h0 n0 Z0 O0 S0 h hgv
    · exact rm0_2_1 l Z a0 hw ws le st t1 t2 q fl h0 n0 Z0 O0 S0 h hgv
    · exact rm0_3_1 l Z a0 hw ws le st t1 t2 q fl h0 n0 Z0 O0 S0 h hgv
    · exact rm0_4_1 l Z a0 hw ws le st t1 t2 q fl h0 n0 Z0 O0 S0 h hgv
set_option maxRecDepth 65536 in
set_option maxHeartbeats 40000000 in
theorem comes_1 {Post : Tables → Env → Array Value → State → Outcome → State → Prop} (hpost : ∀ tb e args s v u, (limb_1_1.after args s (.returned v) u = true ∧ limb_1_2.after args s (.returned v) u = true ∧ True) → FrameEnd s (.returned v) u (Jvm.fieldLocs frame_1_writes args s ++ Jvm.arrayLocs frame_1_arrays args s ++ Jvm.staticLocs frame_1_statics s) 16 128 → Post tb e args s (.returned v) u) :
    ArmFor flags0 classFile x code maxLocals ret World_1 tables_1 room_1 Calls_1 rest_1 Pre_1 Post := by
  intro l hfl _ _ p e ha hc hk s m args below hf hA hF happ hP
  obtain ⟨hcalls, hrest, hpre⟩ := hP
  obtain ⟨-, -, -, hnamed, -, -, -, hat⟩ := (Spec.applies_iff hf).mp happ
  obtain ⟨hg, hn⟩ := and_e (Cond.before_iff.mp (show (Jvm.Cond.and given_1 narrow_1).before args s = true from hpre))
  obtain ⟨hcount, k0⟩ := and_e hg
  obtain ⟨q0, k1⟩ := and_e k0
  obtain ⟨q1, k2⟩ := and_e k1
  obtain ⟨q2, k3⟩ := and_e k2
  obtain ⟨q3, k4⟩ := and_e k3
  obtain ⟨q4, k5⟩ := and_e k4
  have q5 := k5
  obtain ⟨w0, w1, w2, w3, w4, w5, rfl⟩ : ∃ w0 w1 w2 w3 w4 w5 : Value, args = #[w0, w1, w2, w3, w4, w5] := by
    have hs : args.size = 6 := by simpa [Cond.value, given_1] using hcount
    obtain ⟨L⟩ := args
    match L, hs with
    | [w0, w1, w2, w3, w4, w5], _ => exact ⟨w0, w1, w2, w3, w4, w5, rfl⟩
  have hw := fun d (hd : d ∈ tables_1) => atoms_spec (ws := Jvm.Cond.code x code maxLocals ret :: tables_1) hat d (List.mem_cons_of_mem _ hd)
  have hfit : Fit s := fun {y c} hc i hi => by
    obtain ⟨ha, rfl⟩ := Array.getElem?_eq_some_iff.mp hc
    have q := List.all_eq_true.mp ((Array.all_eq_true_iff_forall_mem.mp hF) _ (Array.getElem_mem ha)) i (List.mem_range.mpr hi)
    simpa [Array.getElem?_eq_getElem hi] using q
  obtain ⟨i0, r0⟩ := own_isl q0
  obtain rfl : w0 = (.long i0) := Option.some.inj r0
  obtain ⟨i1, r1⟩ := own_isl q1
  obtain rfl : w1 = (.long i1) := Option.some.inj r1
  obtain ⟨i2, r2⟩ := own_isl q2
  obtain rfl : w2 = (.long i2) := Option.some.inj r2
  obtain ⟨i3, r3⟩ := own_isl q3
  obtain rfl : w3 = (.long i3) := Option.some.inj r3
  obtain ⟨i4, r4⟩ := own_isl q4
  obtain rfl : w4 = (.long i4) := Option.some.inj r4
  obtain ⟨i5, r5⟩ := is_v q5
  obtain rfl : w5 = (.int i5) := Option.some.inj r5
  have S0 : Sta s s.heap "com/example/causeway/causeway/server/HandoverWait" "RETRY_NANOS" "J" (.long 5000000000) := Sta.start (eqv_l rfl hn) (Or.inr ⟨hw _ (List.mem_of_getElem? (i := 2) rfl), hw _ (List.mem_of_getElem? (i := 35) rfl)⟩)
  obtain ⟨n, o, h1, h2, h3, _, L, rfl, ⟨rfl, N⟩, hq⟩ := rm0 l s _ hw tables_1 i0 i1 i2 i3 i4 i5 s.heap s.heap.size (Nat.le_refl _) (Old.start s) S0 p e ha hc hk s m _ below hf ((Spec.applies_iff_loose hf).mp happ).1 ⟨rfl, State.Warmed39.refl s, rfl⟩ trivial
  refine ⟨n, _, h1, h2, h3, hpost _ _ _ _ _ _ ⟨Cond.after_iff.mpr rfl, Cond.after_iff.mpr (eq_i res_at (Term.int_eval (1)) rfl), trivial⟩ ⟨hq.1, hq.2.1, (hq.2.2.sift fun y hy => Or.inr (N y hy)).mono (by decide) (by decide)⟩⟩
theorem main_1_1 : Claimed_1_1 := comes_1 fun _ _ _ _ _ _ h hF => ⟨h.1, hF⟩
theorem main_1_2 : Claimed_1_2 := comes_1 fun _ _ _ _ _ _ h hF => ⟨h.2.1, hF⟩
end Jvm.Pilot.@@N@@
namespace Jvm.Pilot.@@N@@
open Jvm Jvm.ClassFile Sem Op Lib Jvm.Free Jvm.Stand Jvm.Pilot.@@N@@.Jvm.D
/-! MADE BY PROGRAM (witnessworld.py) out of the Statement's table words and the real class files: 9 classes; the members and pool entries that the words name. The judged class is class 1, her method 1. -/
namespace start1
open Jvm.ClassFile
def u (s : String) : CpInfo := .utf8 (stringToUtf16 s)
/-- a pool by its gaps: so many unusable entries, then the entry; so many at the end -/
def gap : Nat → List CpInfo → List CpInfo
  | 0, r => r
  | n + 1, r => .unusable :: gap n r
def poolList (es : List (Nat × CpInfo)) (last : Nat) : List CpInfo := es.foldr (fun e r => gap e.1 (e.2 :: r)) (gap last [])
def pool (es : List (Nat × CpInfo)) (last : Nat) : Array CpInfo := ⟨poolList es last⟩
def fileOf (pool : Array CpInfo) (this : Nat) (attrs : Array Attribute := #[]) (ms : Array MethodInfo := #[]) (fl : Nat := 33) (sup : Nat := 0) (ifs : Array Nat := #[]) (fds : Array FieldInfo := #[]) : ClassFile where
  minorVersion := 0
  majorVersion := 65
  constantPool := pool
  accessFlags := fl
  thisClass := this
  superClass := sup
  interfaces := ifs
  fields := fds
  methods := ms
  attributes := attrs
def plain (name : String) (sup : Option ClassId) : Class where
  name := name
  kind := .ordinary
  loader := none
  accessFlags := 33
  super := sup
  interfaces := #[]
  cf := none
  fields := #[]
  methods := #[]
  instanceTypes := #[]
  staticTypes := #[]
  resolved := #[]
  callSites := []
  init := .initialized
  statics := none
  mirror := none

def pool0 : Array CpInfo := pool [(5, u "<init>"), (0, u "()V"), (1, .class_ 10), (1, u "java/lang/Object")] 113

def k0c0 : Code := { maxStack := 0, maxLocals := 1, code := object_method_1_code, exceptionTable := #[], attributes := #[] }
def k0m0 : Method := { name := "<init>", desc := "()V", sig := { parameters := [], returnType := none }, accessFlags := 1, code := some k0c0 }
/-- java/lang/Object -/
def k0 : Class := { plain "java/lang/Object" none with
  accessFlags := 33
  interfaces := #[]
  cf := some (fileOf pool0 8 #[] #[{ accessFlags := 1, nameIndex := 5, descriptorIndex := 6, attributes := #[] }] 33 0 #[] #[])
  fields := #[]
  methods := #[k0m0]
  instanceTypes := #[]
  staticTypes := #[]
  resolved := Array.replicate 124 none
  statics := none }

def pool1 : Array CpInfo := pool [(2, .class_ 4), (1, u "java/lang/Object"), (0, u "<init>"), (0, u "()V"), (0, .class_ 8), (0, u "com/example/causeway/causeway/server/HandoverWait"), (0, .methodref 7 10), (0, .nameAndType 5 11), (0, u "(JJ)V"), (0, .methodref 7 13), (0, .nameAndType 14 15), (0, u "leads"), (0, u "(ZJ)Z"), (0, .methodref 7 17), (0, .nameAndType 18 19), (0, u "caughtUp"), (0, u "(J)V"), (0, .methodref 7 21), (0, .nameAndType 22 6), (0, u "lost"), (0, .methodref 7 24), (0, .nameAndType 25 19), (0, u "gaveUp"), (0, .long 5000000000), (1, .methodref 7 29), (0, .nameAndType 30 31), (0, u "due"), (0, u "(J)Z"), (0, .class_ 33), (0, u "com/example/causeway/causeway/server/HandoverWaitDuePinLaw"), (2, u "law"), (0, u "(JJJJJI)Z")] 3

def k1m0 : Method := { name := "<init>", desc := "()V", sig := { parameters := [], returnType := none }, accessFlags := 1, code := none }
def k1c1 : Code := { maxStack := 6, maxLocals := 21, code := code, exceptionTable := #[], attributes := #[] }
def k1m1 : Method := { name := "law", desc := "(JJJJJI)Z", sig := { parameters := [.long, .long, .long, .long, .long, .int], returnType := some .boolean }, accessFlags := 9, code := some k1c1 }
/-- com/example/causeway/causeway/server/HandoverWaitDuePinLaw -/
def k1 : Class := { plain "com/example/causeway/causeway/server/HandoverWaitDuePinLaw" (some 0) with
  accessFlags := 49
  interfaces := #[]
  cf := some (fileOf pool1 32 #[] #[{ accessFlags := 1, nameIndex := 5, descriptorIndex := 6, attributes := #[] }, { accessFlags := 9, nameIndex := 36, descriptorIndex := 37, attributes := #[] }] 49 2 #[] #[])
  fields := #[]
  methods := #[k1m0, k1m1]
  instanceTypes := #[]
  staticTypes := #[]
  resolved := Array.replicate 41 none
  statics := none }

def pool2 : Array CpInfo := pool [(1, .methodref 2 3), (0, .class_ 4), (0, .nameAndType 5 6), (0, u "java/lang/Object"), (0, u "<init>"), (0, u "()V"), (0, .fieldref 8 9), (0, .class_ 10), (0, .nameAndType 11 12), (0, u "com/example/causeway/causeway/server/HandoverWait"), (0, u "leaseNanos"), (0, u "J"), (0, .fieldref 8 14), (0, .nameAndType 15 12), (0, u "waitNanos"), (0, .fieldref 8 17), (0, .nameAndType 18 12), (0, u "retryAfter"), (0, .fieldref 8 20), (0, .nameAndType 21 22), (0, u "led"), (0, u "Z"), (0, .fieldref 8 24), (0, .nameAndType 25 12), (0, u "ledSince"), (0, .fieldref 8 27), (0, .nameAndType 28 12), (0, u "ledUntil"), (0, .long 20), (1, .long 100), (1, .long 4), (7, .fieldref 8 42), (0, .nameAndType 43 22), (0, u "caughtUp"), (0, .fieldref 8 45), (0, .nameAndType 46 12), (0, u "caughtUpSince"), (0, .fieldref 8 48), (0, .nameAndType 49 12), (0, u "RETRY_NANOS"), (12, u "GROWTH"), (1, u "MOST_LEASES"), (0, u "SOON_LEASES"), (0, u "(JJ)V"), (2, u "leads"), (0, u "(ZJ)Z"), (1, u "(J)V"), (0, u "lost"), (0, u "gaveUp"), (0, u "due"), (0, u "(J)Z")] 5

def k2c0 : Code := { maxStack := 3, maxLocals := 5, code := prog_83_method_1_code, exceptionTable := #[], attributes := #[] }
def k2m0 : Method := { name := "<init>", desc := "(JJ)V", sig := { parameters := [.long, .long], returnType := none }, accessFlags := 0, code := some k2c0 }
def k2c1 : Code := { maxStack := 7, maxLocals := 7, code := prog_83_method_2_code, exceptionTable := #[], attributes := #[] }
def k2m1 : Method := { name := "leads", desc := "(ZJ)Z", sig := { parameters := [.boolean, .long], returnType := some .boolean }, accessFlags := 0, code := some k2c1 }
def k2c2 : Code := { maxStack := 3, maxLocals := 3, code := prog_83_method_3_code, exceptionTable := #[], attributes := #[] }
def k2m2 : Method := { name := "caughtUp", desc := "(J)V", sig := { parameters := [.long], returnType := none }, accessFlags := 0, code := some k2c2 }
def k2c3 : Code := { maxStack := 2, maxLocals := 1, code := prog_83_method_4_code, exceptionTable := #[], attributes := #[] }
def k2m3 : Method := { name := "lost", desc := "()V", sig := { parameters := [], returnType := none }, accessFlags := 0, code := some k2c3 }
def k2c4 : Code := { maxStack := 5, maxLocals := 3, code := prog_83_method_5_code, exceptionTable := #[], attributes := #[] }
def k2m4 : Method := { name := "gaveUp", desc := "(J)V", sig := { parameters := [.long], returnType := none }, accessFlags := 0, code := some k2c4 }
def k2c5 : Code := { maxStack := 4, maxLocals := 3, code := prog_83_method_6_code, exceptionTable := #[], attributes := #[] }
def k2m5 : Method := { name := "due", desc := "(J)Z", sig := { parameters := [.long], returnType := some .boolean }, accessFlags := 0, code := some k2c5 }
/-- com/example/causeway/causeway/server/HandoverWait -/
def k2 : Class := { plain "com/example/causeway/causeway/server/HandoverWait" (some 0) with
  accessFlags := 48
  interfaces := #[]
  cf := some (fileOf pool2 8 #[] #[{ accessFlags := 0, nameIndex := 5, descriptorIndex := 66, attributes := #[] }, { accessFlags := 0, nameIndex := 69, descriptorIndex := 70, attributes := #[] }, { accessFlags := 0, nameIndex := 43, descriptorIndex := 72, attributes := #[] }, { accessFlags := 0, nameIndex := 73, descriptorIndex := 6, attributes := #[] }, { accessFlags := 0, nameIndex := 74, descriptorIndex := 72, attributes := #[] }, { accessFlags := 0, nameIndex := 75, descriptorIndex := 76, attributes := #[] }] 48 2 #[] #[{ accessFlags := 26, nameIndex := 62, descriptorIndex := 12, attributes := #[] }, { accessFlags := 26, nameIndex := 64, descriptorIndex := 12, attributes := #[] }, { accessFlags := 26, nameIndex := 65, descriptorIndex := 12, attributes := #[] }, { accessFlags := 26, nameIndex := 49, descriptorIndex := 12, attributes := #[] }, { accessFlags := 18, nameIndex := 11, descriptorIndex := 12, attributes := #[] }, { accessFlags := 2, nameIndex := 15, descriptorIndex := 12, attributes := #[] }, { accessFlags := 2, nameIndex := 21, descriptorIndex := 22, attributes := #[] }, { accessFlags := 2, nameIndex := 25, descriptorIndex := 12, attributes := #[] }, { accessFlags := 2, nameIndex := 28, descriptorIndex := 12, attributes := #[] }, { accessFlags := 2, nameIndex := 43, descriptorIndex := 22, attributes := #[] }, { accessFlags := 2, nameIndex := 46, descriptorIndex := 12, attributes := #[] }, { accessFlags := 2, nameIndex := 18, descriptorIndex := 12, attributes := #[] }])
  fields := #[{ name := "GROWTH", type := .long, accessFlags := 26, slot := 0, constantValue := 0 }, { name := "MOST_LEASES", type := .long, accessFlags := 26, slot := 1, constantValue := 0 }, { name := "SOON_LEASES", type := .long, accessFlags := 26, slot := 2, constantValue := 0 }, { name := "RETRY_NANOS", type := .long, accessFlags := 26, slot := 3, constantValue := 0 }, { name := "leaseNanos", type := .long, accessFlags := 18, slot := 0, constantValue := 0 }, { name := "waitNanos", type := .long, accessFlags := 2, slot := 1, constantValue := 0 }, { name := "led", type := .boolean, accessFlags := 2, slot := 2, constantValue := 0 }, { name := "ledSince", type := .long, accessFlags := 2, slot := 3, constantValue := 0 }, { name := "ledUntil", type := .long, accessFlags := 2, slot := 4, constantValue := 0 }, { name := "caughtUp", type := .boolean, accessFlags := 2, slot := 5, constantValue := 0 }, { name := "caughtUpSince", type := .long, accessFlags := 2, slot := 6, constantValue := 0 }, { name := "retryAfter", type := .long, accessFlags := 2, slot := 7, constantValue := 0 }]
  methods := #[k2m0, k2m1, k2m2, k2m3, k2m4, k2m5]
  instanceTypes := #[.long, .long, .boolean, .long, .long, .boolean, .long, .long]
  staticTypes := #[.long, .long, .long, .long]
  resolved := Array.replicate 82 none
  statics := some 0 }

def pool3 : Array CpInfo := pool [(1, u "java/lang/Cloneable"), (0, .class_ 1), (0, u "java/lang/Object"), (0, .class_ 3)] 3

/-- java/lang/Cloneable -/
def k3 : Class := { plain "java/lang/Cloneable" (some 0) with
  accessFlags := 1537
  interfaces := #[]
  cf := some (fileOf pool3 2 #[] #[] 1537 4 #[] #[])
  fields := #[]
  methods := #[]
  instanceTypes := #[]
  staticTypes := #[]
  resolved := Array.replicate 8 none
  statics := none }

def pool4 : Array CpInfo := pool [(1, u "java/io/Serializable"), (0, .class_ 1), (0, u "java/lang/Object"), (0, .class_ 3)] 3

/-- java/io/Serializable -/
def k4 : Class := { plain "java/io/Serializable" (some 0) with
  accessFlags := 1537
  interfaces := #[]
  cf := some (fileOf pool4 2 #[] #[] 1537 4 #[] #[])
  fields := #[]
  methods := #[]
  instanceTypes := #[]
  staticTypes := #[]
  resolved := Array.replicate 8 none
  statics := none }

/-- the primitive byte -/
def k5 : Class := { plain "byte" none with kind := .primitive 'B', accessFlags := 0x411 }
/-- [B -/
def k6 : Class := { plain "[B" (some 0) with kind := .array 5 .byte, interfaces := #[3, 4], accessFlags := 1041 }

/-- the primitive int -/
def k7 : Class := { plain "int" none with kind := .primitive 'I', accessFlags := 0x411 }
/-- [I -/
def k8 : Class := { plain "[I" (some 0) with kind := .array 7 .int, interfaces := #[3, 4], accessFlags := 1041 }

def heap : Heap := #[{ cls := 2, slots := #[.long 0, .long 0, .long 0, .long 5000000000], vm := .statics 2 }]
def classes : Array Class := #[k0, k1, k2, k3, k4, k5, k6, k7, k8]
def interned : List (Array UInt16 × Addr) := []
def slotsUsed : Nat := 4
def theMethod : MethodId := ⟨1, 1⟩
def args0 : Array Value := #[.long 5, .long 9, .long 3, .long 4, .long 6, .int 13]
def aboutOver (below : List Frame) : State where
  vm := { classes := classes, interned := interned.toArray }
  heap := heap
  slotsUsed := slotsUsed
  threads := #[{ frames := .invoking theMethod args0 :: below }]
def below0 : List Frame := [.native { method := ⟨0, 0⟩, args := #[] }]
def about1 : State := aboutOver below0
def p0 : Program := .bare "" "" ""
def e0 : Env := launch0.env 0 0 0
theorem w_frames : about1.frames = Frame.invoking theMethod args0 :: below0 := rfl
set_option maxRecDepth 65536 in
theorem w_args : argsFit about1.vm theMethod args0 = true := by decide +kernel
set_option maxRecDepth 65536 in
theorem w_heap : heapFits about1 = true := by decide +kernel
set_option maxRecDepth 65536 in
theorem w_runnable : about1.curStatus? = some .runnable := by decide +kernel
set_option maxRecDepth 65536 in
theorem w_alone : about1.alone = true := by decide +kernel
set_option maxRecDepth 65536 in
theorem w_named : about1.methodNamed? x = some theMethod := by decide +kernel
set_option maxRecDepth 65536 in
theorem w_hears : about1.hears theMethod below0 = true := by decide +kernel
set_option maxRecDepth 65536 in
theorem w_ripe : about1.ripe theMethod args0 below0 = true := by decide +kernel
theorem w_running : about1.status = .running := rfl
set_option maxRecDepth 65536 in
theorem w_room : about1.hasRoom e0.platform room_1 = true :=
  launch0.hasRoom_least _ room_1 (by decide +kernel) (by decide +kernel) (by decide +kernel) (by decide +kernel) (by decide +kernel) (by decide +kernel)
theorem allAtoms_all (ts : List Jvm.Cond) (a : Array Jvm.Value) (st : Jvm.State) : (allAtoms ts).before a st = ts.all (fun c => c.before a st) := by
  induction ts with
  | nil => rfl
  | cons c t ih =>
    show (Jvm.Cond.and c (allAtoms t)).before a st = _
    rw [Jvm.Cond.before_and, ih, List.all_cons]
def words1 : List Jvm.Cond := Jvm.Cond.code x code maxLocals ret :: tables_1
/-- a 'code' word, met by the world's own term for the bytes: nothing is compared byte by byte -/
theorem code_word {y : MethodName} {bytes : ByteArray} {mx : Nat} {rt : Option FieldType} {a : Array Value} {s : State} {m : MethodId} {meth : Method} {c : Code} (h1 : s.methodNamed? y = some m) (h2 : s.vm.method? m = some meth) (h3 : meth.code = some c) (h4 : c.code = bytes)
    (h5 : (c.maxLocals == mx && c.exceptionTable.isEmpty && decide (c.maxStack ≤ mostOperands) && decide (meth.sig.returnType = rt) && !meth.locks && decide (parseMethodDescriptor y.desc = some meth.sig)) = true) : (Jvm.Cond.code y bytes mx rt).before a s = true := by
  simp only [Bool.and_eq_true, beq_iff_eq, Bool.not_eq_true', decide_eq_true_eq] at h5
  obtain ⟨⟨⟨⟨⟨g1, g2⟩, g3⟩, g4⟩, g5⟩, g6⟩ := h5
  simp [Cond.before, Cond.holds, Cond.value, h1, h2, h3, h4, g1, g2, g3, g4, g5, g6]
def isCode : Jvm.Cond → Bool
  | .code _ _ _ _ => true
  | _ => false
theorem all_split {L : List Jvm.Cond} {P : Jvm.Cond → Bool} (h1 : L.all (fun c => isCode c || P c) = true) (h2 : ∀ c ∈ L.filter isCode, P c = true) : L.all P = true := by
  refine List.all_eq_true.mpr fun c hc => ?_
  have h := List.all_eq_true.mp h1 c hc
  rcases Bool.eq_false_or_eq_true (isCode c) with hi | hi
  · exact h2 c (List.mem_filter.mpr ⟨hc, hi⟩)
  · simpa [hi] using h
set_option maxRecDepth 65536 in
theorem w_c0 : (Jvm.Cond.code x code maxLocals ret).before args0 about1 = true := code_word (m := ⟨1, 1⟩) (meth := k1m1) (c := k1c1) (by decide +kernel) rfl rfl rfl (by decide +kernel)
set_option maxRecDepth 65536 in
theorem w_c1 : (Jvm.Cond.code ({ cls := "com/example/causeway/causeway/server/HandoverWait", name := "<init>", desc := "(JJ)V" } : Jvm.MethodName) prog_83_method_1_code (5 : Nat) (Option.none : Option Jvm.ClassFile.FieldType)).before args0 about1 = true := code_word (m := ⟨2, 0⟩) (meth := k2m0) (c := k2c0) (by decide +kernel) rfl rfl rfl (by decide +kernel)
set_option maxRecDepth 65536 in
theorem w_c2 : (Jvm.Cond.code ({ cls := "java/lang/Object", name := "<init>", desc := "()V" } : Jvm.MethodName) object_method_1_code (1 : Nat) (Option.none : Option Jvm.ClassFile.FieldType)).before args0 about1 = true := code_word (m := ⟨0, 0⟩) (meth := k0m0) (c := k0c0) (by decide +kernel) rfl rfl rfl (by decide +kernel)
set_option maxRecDepth 65536 in
theorem w_c3 : (Jvm.Cond.code ({ cls := "com/example/causeway/causeway/server/HandoverWait", name := "caughtUp", desc := "(J)V" } : Jvm.MethodName) prog_83_method_3_code (3 : Nat) (Option.none : Option Jvm.ClassFile.FieldType)).before args0 about1 = true := code_word (m := ⟨2, 2⟩) (meth := k2m2) (c := k2c2) (by decide +kernel) rfl rfl rfl (by decide +kernel)
set_option maxRecDepth 65536 in
theorem w_c4 : (Jvm.Cond.code ({ cls := "com/example/causeway/causeway/server/HandoverWait", name := "due", desc := "(J)Z" } : Jvm.MethodName) prog_83_method_6_code (3 : Nat) (Option.some Jvm.ClassFile.FieldType.boolean)).before args0 about1 = true := code_word (m := ⟨2, 5⟩) (meth := k2m5) (c := k2c5) (by decide +kernel) rfl rfl rfl (by decide +kernel)
set_option maxRecDepth 65536 in
theorem w_c5 : (Jvm.Cond.code ({ cls := "com/example/causeway/causeway/server/HandoverWait", name := "gaveUp", desc := "(J)V" } : Jvm.MethodName) prog_83_method_5_code (3 : Nat) (Option.none : Option Jvm.ClassFile.FieldType)).before args0 about1 = true := code_word (m := ⟨2, 4⟩) (meth := k2m4) (c := k2c4) (by decide +kernel) rfl rfl rfl (by decide +kernel)
set_option maxRecDepth 65536 in
theorem w_c6 : (Jvm.Cond.code ({ cls := "com/example/causeway/causeway/server/HandoverWait", name := "leads", desc := "(ZJ)Z" } : Jvm.MethodName) prog_83_method_2_code (7 : Nat) (Option.some Jvm.ClassFile.FieldType.boolean)).before args0 about1 = true := code_word (m := ⟨2, 1⟩) (meth := k2m1) (c := k2c1) (by decide +kernel) rfl rfl rfl (by decide +kernel)
set_option maxRecDepth 65536 in
theorem w_c7 : (Jvm.Cond.code ({ cls := "com/example/causeway/causeway/server/HandoverWait", name := "lost", desc := "()V" } : Jvm.MethodName) prog_83_method_4_code (1 : Nat) (Option.none : Option Jvm.ClassFile.FieldType)).before args0 about1 = true := code_word (m := ⟨2, 3⟩) (meth := k2m3) (c := k2c3) (by decide +kernel) rfl rfl rfl (by decide +kernel)
def codes1 : List Jvm.Cond := [Jvm.Cond.code x code maxLocals ret, Jvm.Cond.code ({ cls := "com/example/causeway/causeway/server/HandoverWait", name := "<init>", desc := "(JJ)V" } : Jvm.MethodName) prog_83_method_1_code (5 : Nat) (Option.none : Option Jvm.ClassFile.FieldType), Jvm.Cond.code ({ cls := "java/lang/Object", name := "<init>", desc := "()V" } : Jvm.MethodName) object_method_1_code (1 : Nat) (Option.none : Option Jvm.ClassFile.FieldType), Jvm.Cond.code ({ cls := "com/example/causeway/causeway/server/HandoverWait", name := "caughtUp", desc := "(J)V" } : Jvm.MethodName) prog_83_method_3_code (3 : Nat) (Option.none : Option Jvm.ClassFile.FieldType), Jvm.Cond.code ({ cls := "com/example/causeway/causeway/server/HandoverWait", name := "due", desc := "(J)Z" } : Jvm.MethodName) prog_83_method_6_code (3 : Nat) (Option.some Jvm.ClassFile.FieldType.boolean), Jvm.Cond.code ({ cls := "com/example/causeway/causeway/server/HandoverWait", name := "gaveUp", desc := "(J)V" } : Jvm.MethodName) prog_83_method_5_code (3 : Nat) (Option.none : Option Jvm.ClassFile.FieldType), Jvm.Cond.code ({ cls := "com/example/causeway/causeway/server/HandoverWait", name := "leads", desc := "(ZJ)Z" } : Jvm.MethodName) prog_83_method_2_code (7 : Nat) (Option.some Jvm.ClassFile.FieldType.boolean), Jvm.Cond.code ({ cls := "com/example/causeway/causeway/server/HandoverWait", name := "lost", desc := "()V" } : Jvm.MethodName) prog_83_method_4_code (1 : Nat) (Option.none : Option Jvm.ClassFile.FieldType)]
set_option maxRecDepth 65536 in
theorem codes_eq : words1.filter isCode = codes1 := rfl
theorem w_codes : ∀ c ∈ words1.filter isCode, c.before args0 about1 = true := by
  rw [codes_eq]
  intro c hc
  simp only [codes1, List.mem_cons, List.not_mem_nil, or_false] at hc
  rcases hc with rfl | rfl | rfl | rfl | rfl | rfl | rfl | rfl
  · exact w_c0
  · exact w_c1
  · exact w_c2
  · exact w_c3
  · exact w_c4
  · exact w_c5
  · exact w_c6
  · exact w_c7
set_option maxRecDepth 65536 in
theorem w_t1 : (words1.take 24).all (fun c => isCode c || c.before args0 about1) = true := by decide +kernel
set_option maxRecDepth 65536 in
theorem w_t2 : ((words1.drop 24).take 24).all (fun c => isCode c || c.before args0 about1) = true := by decide +kernel
set_option maxRecDepth 65536 in
theorem w_t3 : ((words1.drop 24).drop 24).all (fun c => isCode c || c.before args0 about1) = true := by decide +kernel
theorem w_tables : (allAtoms (Jvm.Cond.code x code maxLocals ret :: tables_1)).before args0 about1 = true := by
  rw [allAtoms_all]
  show words1.all (fun c => c.before args0 about1) = true
  refine all_split ?_ w_codes
  rw [← List.take_append_drop 24 words1, List.all_append, w_t1, ← List.take_append_drop 24 (words1.drop 24), List.all_append, w_t2, w_t3]
  rfl
set_option maxRecDepth 65536 in
theorem w_case : (Jvm.Cond.and given_1 narrow_1).before args0 about1 = true := by decide +kernel
theorem w_applies : (headSpec (Jvm.Cond.code x code maxLocals ret :: tables_1) room_1).applies x e0.platform about1 = true :=
  (Spec.applies_iff w_frames).mpr ⟨w_running, w_runnable, w_alone, w_named, w_hears, w_ripe, w_room, w_tables⟩
theorem atStart : AtStart classFile x code maxLocals ret World_1 tables_1 room_1 Calls_1 rest_1 Pre_1 launch0 p0 e0 about1 theMethod args0 below0 :=
  ⟨lists_1, trivial, launch0.admits_env _ _ _, launch0.least_env, fairChoices_fair.cas, fairChoices_fair.clock, w_frames, w_args, w_heap, w_applies, trivial, trivial, w_case⟩
end start1
theorem witness_1 : WitnessClaimed_1 := ⟨start1.p0, start1.e0, start1.about1, start1.theMethod, start1.args0, start1.below0, start1.atStart⟩
end Jvm.Pilot.@@N@@
