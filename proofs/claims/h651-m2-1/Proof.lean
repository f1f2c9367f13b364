import JvmDerived
import JvmDerived.Pilot.@@N@@Statement
import JvmDerived.Pilot.@@N@@Code
set_option linter.unusedVariables false
set_option linter.unusedSimpArgs false
namespace Jvm.Pilot.@@N@@
open Jvm Jvm.ClassFile Sem Op Lib Jvm.Free Jvm.Stand Jvm.LawKit Jvm.RoadKit Bundle Jvm.Pilot.@@N@@.Jvm.D
/-- from S on the run ends as Q says -/
def own_Go (p : Program) (e : Env) (below : List Frame) (s : State) (Q : Option Value → Heap → List Loc → Prop) (k n : Nat) (S : State) : Prop :=
  ∃ s₂ o, Steps p.tables e below S s₂ ∧ s₂.status = .running ∧ Ended s₂ below o ∧ ∃ v L, o = .returned v ∧ Q v s₂.heap L ∧ FrameEnd s o s₂ L k n
/-- the goal, as a predicate that is closed under steps -/
theorem own_abs (p : Program) (e : Env) (below : List Frame) (s : State) (Q : Option Value → Heap → List Loc → Prop) (k n : Nat) :
    ∃ G : State → Prop, (∀ {S : State}, G S → own_Go p e below s Q k n S) ∧ (∀ {S S' : State}, (∀ t, Steps p.tables e below S' t → Steps p.tables e below S t) → G S' → G S) ∧ (∀ {S : State}, own_Go p e below s Q k n S → G S) :=
  ⟨own_Go p e below s Q k n, fun h => h, fun h g => by obtain ⟨s2, o, h1, r⟩ := g; exact ⟨s2, o, h _ h1, r⟩, fun h => h⟩
section OwnEnd
variable {p : Program} {l : Launch} {e : Env} {R : Room} {s : State} {m : MethodId} {args : Array Value} {below : List Frame} {meth : Method} {c : Code} {T : State} {locs : List Loc} {cells slots : Nat} {Q : Option Value → Heap → List Loc → Prop} {k n : Nat}
theorem own_goRet (X : Stand p l e R s m args below meth c T locs cells slots) (hx : p.tables.exec = Jvm.exec) {pc : Nat} {Ls : Array Slot} {w : Value} {t : FieldType} {i : Instr} {rest : List Value} (hret : meth.sig.returnType = some t) (hn : narrow t w = w)
    (hi : (i = .ireturn ∧ (t = .int ∨ t = .boolean ∨ t = .byte ∨ t = .char ∨ t = .short) ∧ ∃ z, w = .int z) ∨ (i = .lreturn ∧ t = .long ∧ ∃ z, w = .long z) ∨ (i = .dreturn ∧ t = .double ∧ ∃ z, w = .double z) ∨ (i = .freturn ∧ t = .float ∧ ∃ z, w = .float z) ∨ (i = .areturn ∧ t.isReference = true ∧ w.isRef = true))
    (hd : decode c.code pc = .ok (i, 1)) (hlk : meth.locks = false) (hQ : Q (some w) T.heap locs) (hk : cells ≤ k) (hn' : slots ≤ n) : own_Go p e below s Q k n (T.setTop (mkF m pc Ls (w :: rest))) := by
  obtain ⟨fs, hr, hrun, hended, hW, hsame⟩ := X.leave (v := some w) (fun h => by rw [hret] at h; cases h) hlk
  exact ⟨_, _, retOut X hx hret hn hi hd hr, hrun, hended, _, _, rfl, hQ, ⟨_, rfl⟩, hW, hsame.mono hk hn'⟩
theorem own_goVoid (X : Stand p l e R s m args below meth c T locs cells slots) (hx : p.tables.exec = Jvm.exec) {pc : Nat} {Ls : Array Slot} (hret : meth.sig.returnType = none)
    (hd : decode c.code pc = .ok (.return_, 1)) (hlk : meth.locks = false) (hQ : Q none T.heap locs) (hk : cells ≤ k) (hn' : slots ≤ n) : own_Go p e below s Q k n (T.setTop (mkF m pc Ls [])) := by
  obtain ⟨fs, hr, hrun, hended, hW, hsame⟩ := X.leave (v := none) (fun _ => rfl) hlk
  exact ⟨_, _, X.returnOut hx hret hd hr, hrun, hended, _, _, rfl, hQ, ⟨_, rfl⟩, hW, hsame.mono hk hn'⟩
end OwnEnd
section OwnStep
variable {p : Program} {e : Env} {below : List Frame} {G : State → Prop} {T : State} {m : MethodId} {c : Code} {pc pc' : Nat} {Ls Lt : Array Slot} {st : List Value}
/-- G is closed under steps -/
abbrev OwnCl (p : Program) (e : Env) (below : List Frame) (G : State → Prop) : Prop := ∀ {S S' : State}, (∀ t, Steps p.tables e below S' t → Steps p.tables e below S t) → G S' → G S
theorem o_iloadN (hst : OwnCl p e below G) (h : At T m c below) (hx : p.tables.exec = Jvm.exec) {n : Fin 4} {v : Int32} (hd : decode c.code pc = .ok (.iload_n n, 1)) (hp : pc + 1 = pc') (hl : Ls[n.val]? = some (.val (.int v))) (k : G (T.setTop (mkF m pc' Ls (.int v :: st)))) : G (T.setTop (mkF m pc Ls (st))) := by
  subst hp; exact hst (fun _ kt => XS.iloadN h hx rfl hd hl kt) k
theorem o_iload (hst : OwnCl p e below G) (h : At T m c below) (hx : p.tables.exec = Jvm.exec) {n : Nat} {v : Int32} (hd : decode c.code pc = .ok (.iload n, 2)) (hp : pc + 2 = pc') (hl : Ls[n]? = some (.val (.int v))) (k : G (T.setTop (mkF m pc' Ls (.int v :: st)))) : G (T.setTop (mkF m pc Ls (st))) := by
  subst hp; exact hst (fun _ kt => XS.iload h hx rfl hd hl kt) k
theorem o_lloadN (hst : OwnCl p e below G) (h : At T m c below) (hx : p.tables.exec = Jvm.exec) {n : Fin 4} {v : Int64} (hd : decode c.code pc = .ok (.lload_n n, 1)) (hp : pc + 1 = pc') (hl : Ls[n.val]? = some (.val (.long v))) (k : G (T.setTop (mkF m pc' Ls (.long v :: st)))) : G (T.setTop (mkF m pc Ls (st))) := by
  subst hp; exact hst (fun _ kt => XS.lloadN h hx rfl hd hl kt) k
theorem o_lload (hst : OwnCl p e below G) (h : At T m c below) (hx : p.tables.exec = Jvm.exec) {n : Nat} {v : Int64} (hd : decode c.code pc = .ok (.lload n, 2)) (hp : pc + 2 = pc') (hl : Ls[n]? = some (.val (.long v))) (k : G (T.setTop (mkF m pc' Ls (.long v :: st)))) : G (T.setTop (mkF m pc Ls (st))) := by
  subst hp; exact hst (fun _ kt => XS.lload h hx rfl hd hl kt) k
theorem o_floadN (hst : OwnCl p e below G) (h : At T m c below) (hx : p.tables.exec = Jvm.exec) {n : Fin 4} {v : UInt32} (hd : decode c.code pc = .ok (.fload_n n, 1)) (hp : pc + 1 = pc') (hl : Ls[n.val]? = some (.val (.float v))) (k : G (T.setTop (mkF m pc' Ls (.float v :: st)))) : G (T.setTop (mkF m pc Ls (st))) := by
  subst hp; exact hst (fun _ kt => XS.floadN h hx rfl hd hl kt) k
theorem o_fload (hst : OwnCl p e below G) (h : At T m c below) (hx : p.tables.exec = Jvm.exec) {n : Nat} {v : UInt32} (hd : decode c.code pc = .ok (.fload n, 2)) (hp : pc + 2 = pc') (hl : Ls[n]? = some (.val (.float v))) (k : G (T.setTop (mkF m pc' Ls (.float v :: st)))) : G (T.setTop (mkF m pc Ls (st))) := by
  subst hp; exact hst (fun _ kt => XS.fload h hx rfl hd hl kt) k
theorem o_aloadN (hst : OwnCl p e below G) (h : At T m c below) (hx : p.tables.exec = Jvm.exec) {n : Fin 4} {v : Value} (hd : decode c.code pc = .ok (.aload_n n, 1)) (hp : pc + 1 = pc') (hl : Ls[n.val]? = some (.val v)) (hv : v.isRef = true) (k : G (T.setTop (mkF m pc' Ls (v :: st)))) : G (T.setTop (mkF m pc Ls (st))) := by
  subst hp; exact hst (fun _ kt => XS.aloadN h hx rfl hd hl hv kt) k
theorem o_aload (hst : OwnCl p e below G) (h : At T m c below) (hx : p.tables.exec = Jvm.exec) {n : Nat} {v : Value} (hd : decode c.code pc = .ok (.aload n, 2)) (hp : pc + 2 = pc') (hl : Ls[n]? = some (.val v)) (hv : v.isRef = true) (k : G (T.setTop (mkF m pc' Ls (v :: st)))) : G (T.setTop (mkF m pc Ls (st))) := by
  subst hp; exact hst (fun _ kt => XS.aload h hx rfl hd hl hv kt) k
theorem o_istoreN (hst : OwnCl p e below G) (h : At T m c below) (hx : p.tables.exec = Jvm.exec) {n : Fin 4} {v : Int32} (hd : decode c.code pc = .ok (.istore_n n, 1)) (hp : pc + 1 = pc') (hl : storeLocals Ls n.val (.int v) = some Lt) (k : G (T.setTop (mkF m pc' Lt (st)))) : G (T.setTop (mkF m pc Ls (.int v :: st))) := by
  subst hp; exact hst (fun _ kt => XS.istoreN h hx rfl hd rfl hl kt) k
theorem o_istore (hst : OwnCl p e below G) (h : At T m c below) (hx : p.tables.exec = Jvm.exec) {n : Nat} {v : Int32} (hd : decode c.code pc = .ok (.istore n, 2)) (hp : pc + 2 = pc') (hl : storeLocals Ls n (.int v) = some Lt) (k : G (T.setTop (mkF m pc' Lt (st)))) : G (T.setTop (mkF m pc Ls (.int v :: st))) := by
  subst hp; exact hst (fun _ kt => XS.istore h hx rfl hd rfl hl kt) k
theorem o_lstoreN (hst : OwnCl p e below G) (h : At T m c below) (hx : p.tables.exec = Jvm.exec) {n : Fin 4} {v : Int64} (hd : decode c.code pc = .ok (.lstore_n n, 1)) (hp : pc + 1 = pc') (hl : storeLocals Ls n.val (.long v) = some Lt) (k : G (T.setTop (mkF m pc' Lt (st)))) : G (T.setTop (mkF m pc Ls (.long v :: st))) := by
  subst hp; exact hst (fun _ kt => XS.lstoreN h hx rfl hd rfl hl kt) k
theorem o_lstore (hst : OwnCl p e below G) (h : At T m c below) (hx : p.tables.exec = Jvm.exec) {n : Nat} {v : Int64} (hd : decode c.code pc = .ok (.lstore n, 2)) (hp : pc + 2 = pc') (hl : storeLocals Ls n (.long v) = some Lt) (k : G (T.setTop (mkF m pc' Lt (st)))) : G (T.setTop (mkF m pc Ls (.long v :: st))) := by
  subst hp; exact hst (fun _ kt => XS.lstore h hx rfl hd rfl hl kt) k
theorem o_astoreN (hst : OwnCl p e below G) (h : At T m c below) (hx : p.tables.exec = Jvm.exec) {n : Fin 4} {v : Value} (hd : decode c.code pc = .ok (.astore_n n, 1)) (hp : pc + 1 = pc') (hv : v.isRef = true) (hl : storeLocals Ls n.val v = some Lt) (k : G (T.setTop (mkF m pc' Lt (st)))) : G (T.setTop (mkF m pc Ls (v :: st))) := by
  subst hp; exact hst (fun _ kt => XS.astoreN h hx rfl hd rfl hv hl kt) k
theorem o_astore (hst : OwnCl p e below G) (h : At T m c below) (hx : p.tables.exec = Jvm.exec) {n : Nat} {v : Value} (hd : decode c.code pc = .ok (.astore n, 2)) (hp : pc + 2 = pc') (hv : v.isRef = true) (hl : storeLocals Ls n v = some Lt) (k : G (T.setTop (mkF m pc' Lt (st)))) : G (T.setTop (mkF m pc Ls (v :: st))) := by
  subst hp; exact hst (fun _ kt => XS.astore h hx rfl hd rfl hv hl kt) k
theorem o_iconst (hst : OwnCl p e below G) (h : At T m c below) (hx : p.tables.exec = Jvm.exec) {i : Int} {z : Int32} (hd : decode c.code pc = .ok (.iconst i, 1)) (hp : pc + 1 = pc') (hz : Int32.ofInt i = z) (k : G (T.setTop (mkF m pc' Ls (.int z :: st)))) : G (T.setTop (mkF m pc Ls (st))) := by
  subst hp hz; exact hst (fun _ kt => XS.iconst h hx rfl hd kt) k
theorem o_bipush (hst : OwnCl p e below G) (h : At T m c below) (hx : p.tables.exec = Jvm.exec) {i : Int} {z : Int32} (hd : decode c.code pc = .ok (.bipush i, 2)) (hp : pc + 2 = pc') (hz : (Int8.ofInt i).toInt32 = z) (k : G (T.setTop (mkF m pc' Ls (.int z :: st)))) : G (T.setTop (mkF m pc Ls (st))) := by
  subst hp hz; exact hst (fun _ kt => XS.bipush h hx rfl hd kt) k
theorem o_sipush (hst : OwnCl p e below G) (h : At T m c below) (hx : p.tables.exec = Jvm.exec) {i : Int} {z : Int32} (hd : decode c.code pc = .ok (.sipush i, 3)) (hp : pc + 3 = pc') (hz : (Int16.ofInt i).toInt32 = z) (k : G (T.setTop (mkF m pc' Ls (.int z :: st)))) : G (T.setTop (mkF m pc Ls (st))) := by
  subst hp hz; exact hst (fun _ kt => XS.sipush h hx rfl hd kt) k
theorem o_lconst (hst : OwnCl p e below G) (h : At T m c below) (hx : p.tables.exec = Jvm.exec) {i : Fin 2} {z : Int64} (hd : decode c.code pc = .ok (.lconst i, 1)) (hp : pc + 1 = pc') (hz : Int64.ofNat i = z) (k : G (T.setTop (mkF m pc' Ls (.long z :: st)))) : G (T.setTop (mkF m pc Ls (st))) := by
  subst hp hz; exact hst (fun _ kt => XS.lconst h hx rfl hd kt) k
theorem o_aconstNull (hst : OwnCl p e below G) (h : At T m c below) (hx : p.tables.exec = Jvm.exec)  (hd : decode c.code pc = .ok (.aconst_null, 1)) (hp : pc + 1 = pc') (k : G (T.setTop (mkF m pc' Ls (.null :: st)))) : G (T.setTop (mkF m pc Ls (st))) := by
  subst hp; exact hst (fun _ kt => XS.aconstNull h hx rfl hd kt) k
theorem o_iadd (hst : OwnCl p e below G) (h : At T m c below) (hx : p.tables.exec = Jvm.exec) {x y : Int32} (hd : decode c.code pc = .ok (.iadd, 1)) (hp : pc + 1 = pc') (k : G (T.setTop (mkF m pc' Ls (.int (x + y) :: st)))) : G (T.setTop (mkF m pc Ls (.int y :: .int x :: st))) := by
  subst hp; exact hst (fun _ kt => XS.iadd h hx rfl hd rfl kt) k
theorem o_ladd (hst : OwnCl p e below G) (h : At T m c below) (hx : p.tables.exec = Jvm.exec) {x y : Int64} (hd : decode c.code pc = .ok (.ladd, 1)) (hp : pc + 1 = pc') (k : G (T.setTop (mkF m pc' Ls (.long (x + y) :: st)))) : G (T.setTop (mkF m pc Ls (.long y :: .long x :: st))) := by
  subst hp; exact hst (fun _ kt => XS.ladd h hx rfl hd rfl kt) k
theorem o_isub (hst : OwnCl p e below G) (h : At T m c below) (hx : p.tables.exec = Jvm.exec) {x y : Int32} (hd : decode c.code pc = .ok (.isub, 1)) (hp : pc + 1 = pc') (k : G (T.setTop (mkF m pc' Ls (.int (x - y) :: st)))) : G (T.setTop (mkF m pc Ls (.int y :: .int x :: st))) := by
  subst hp; exact hst (fun _ kt => XS.isub h hx rfl hd rfl kt) k
theorem o_lsub (hst : OwnCl p e below G) (h : At T m c below) (hx : p.tables.exec = Jvm.exec) {x y : Int64} (hd : decode c.code pc = .ok (.lsub, 1)) (hp : pc + 1 = pc') (k : G (T.setTop (mkF m pc' Ls (.long (x - y) :: st)))) : G (T.setTop (mkF m pc Ls (.long y :: .long x :: st))) := by
  subst hp; exact hst (fun _ kt => XS.lsub h hx rfl hd rfl kt) k
theorem o_imul (hst : OwnCl p e below G) (h : At T m c below) (hx : p.tables.exec = Jvm.exec) {x y : Int32} (hd : decode c.code pc = .ok (.imul, 1)) (hp : pc + 1 = pc') (k : G (T.setTop (mkF m pc' Ls (.int (x * y) :: st)))) : G (T.setTop (mkF m pc Ls (.int y :: .int x :: st))) := by
  subst hp; exact hst (fun _ kt => XS.imul h hx rfl hd rfl kt) k
theorem o_lmul (hst : OwnCl p e below G) (h : At T m c below) (hx : p.tables.exec = Jvm.exec) {x y : Int64} (hd : decode c.code pc = .ok (.lmul, 1)) (hp : pc + 1 = pc') (k : G (T.setTop (mkF m pc' Ls (.long (x * y) :: st)))) : G (T.setTop (mkF m pc Ls (.long y :: .long x :: st))) := by
  subst hp; exact hst (fun _ kt => XS.lmul h hx rfl hd rfl kt) k
theorem o_iand (hst : OwnCl p e below G) (h : At T m c below) (hx : p.tables.exec = Jvm.exec) {x y : Int32} (hd : decode c.code pc = .ok (.iand, 1)) (hp : pc + 1 = pc') (k : G (T.setTop (mkF m pc' Ls (.int (x &&& y) :: st)))) : G (T.setTop (mkF m pc Ls (.int y :: .int x :: st))) := by
  subst hp; exact hst (fun _ kt => XS.iand h hx rfl hd rfl kt) k
theorem o_land (hst : OwnCl p e below G) (h : At T m c below) (hx : p.tables.exec = Jvm.exec) {x y : Int64} (hd : decode c.code pc = .ok (.land, 1)) (hp : pc + 1 = pc') (k : G (T.setTop (mkF m pc' Ls (.long (x &&& y) :: st)))) : G (T.setTop (mkF m pc Ls (.long y :: .long x :: st))) := by
  subst hp; exact hst (fun _ kt => XS.land h hx rfl hd rfl kt) k
theorem o_ior (hst : OwnCl p e below G) (h : At T m c below) (hx : p.tables.exec = Jvm.exec) {x y : Int32} (hd : decode c.code pc = .ok (.ior, 1)) (hp : pc + 1 = pc') (k : G (T.setTop (mkF m pc' Ls (.int (x ||| y) :: st)))) : G (T.setTop (mkF m pc Ls (.int y :: .int x :: st))) := by
  subst hp; exact hst (fun _ kt => XS.ior h hx rfl hd rfl kt) k
theorem o_lor (hst : OwnCl p e below G) (h : At T m c below) (hx : p.tables.exec = Jvm.exec) {x y : Int64} (hd : decode c.code pc = .ok (.lor, 1)) (hp : pc + 1 = pc') (k : G (T.setTop (mkF m pc' Ls (.long (x ||| y) :: st)))) : G (T.setTop (mkF m pc Ls (.long y :: .long x :: st))) := by
  subst hp; exact hst (fun _ kt => XS.lor h hx rfl hd rfl kt) k
theorem o_ixor (hst : OwnCl p e below G) (h : At T m c below) (hx : p.tables.exec = Jvm.exec) {x y : Int32} (hd : decode c.code pc = .ok (.ixor, 1)) (hp : pc + 1 = pc') (k : G (T.setTop (mkF m pc' Ls (.int (x ^^^ y) :: st)))) : G (T.setTop (mkF m pc Ls (.int y :: .int x :: st))) := by
  subst hp; exact hst (fun _ kt => XS.ixor h hx rfl hd rfl kt) k
theorem o_lxor (hst : OwnCl p e below G) (h : At T m c below) (hx : p.tables.exec = Jvm.exec) {x y : Int64} (hd : decode c.code pc = .ok (.lxor, 1)) (hp : pc + 1 = pc') (k : G (T.setTop (mkF m pc' Ls (.long (x ^^^ y) :: st)))) : G (T.setTop (mkF m pc Ls (.long y :: .long x :: st))) := by
  subst hp; exact hst (fun _ kt => XS.lxor h hx rfl hd rfl kt) k
theorem o_ineg (hst : OwnCl p e below G) (h : At T m c below) (hx : p.tables.exec = Jvm.exec) {x : Int32} (hd : decode c.code pc = .ok (.ineg, 1)) (hp : pc + 1 = pc') (k : G (T.setTop (mkF m pc' Ls (.int (-x) :: st)))) : G (T.setTop (mkF m pc Ls (.int x :: st))) := by
  subst hp; exact hst (fun _ kt => XS.ineg h hx rfl hd rfl kt) k
theorem o_lneg (hst : OwnCl p e below G) (h : At T m c below) (hx : p.tables.exec = Jvm.exec) {x : Int64} (hd : decode c.code pc = .ok (.lneg, 1)) (hp : pc + 1 = pc') (k : G (T.setTop (mkF m pc' Ls (.long (-x) :: st)))) : G (T.setTop (mkF m pc Ls (.long x :: st))) := by
  subst hp; exact hst (fun _ kt => XS.lneg h hx rfl hd rfl kt) k
theorem o_i2l (hst : OwnCl p e below G) (h : At T m c below) (hx : p.tables.exec = Jvm.exec) {x : Int32} (hd : decode c.code pc = .ok (.i2l, 1)) (hp : pc + 1 = pc') (k : G (T.setTop (mkF m pc' Ls (.long (x.toInt64) :: st)))) : G (T.setTop (mkF m pc Ls (.int x :: st))) := by
  subst hp; exact hst (fun _ kt => XS.i2l h hx rfl hd rfl kt) k
theorem o_l2i (hst : OwnCl p e below G) (h : At T m c below) (hx : p.tables.exec = Jvm.exec) {x : Int64} (hd : decode c.code pc = .ok (.l2i, 1)) (hp : pc + 1 = pc') (k : G (T.setTop (mkF m pc' Ls (.int (x.toInt32) :: st)))) : G (T.setTop (mkF m pc Ls (.long x :: st))) := by
  subst hp; exact hst (fun _ kt => XS.l2i h hx rfl hd rfl kt) k
theorem o_i2b (hst : OwnCl p e below G) (h : At T m c below) (hx : p.tables.exec = Jvm.exec) {x : Int32} (hd : decode c.code pc = .ok (.i2b, 1)) (hp : pc + 1 = pc') (k : G (T.setTop (mkF m pc' Ls (.int (x.toInt8.toInt32) :: st)))) : G (T.setTop (mkF m pc Ls (.int x :: st))) := by
  subst hp; exact hst (fun _ kt => XS.i2b h hx rfl hd rfl kt) k
theorem o_i2s (hst : OwnCl p e below G) (h : At T m c below) (hx : p.tables.exec = Jvm.exec) {x : Int32} (hd : decode c.code pc = .ok (.i2s, 1)) (hp : pc + 1 = pc') (k : G (T.setTop (mkF m pc' Ls (.int (x.toInt16.toInt32) :: st)))) : G (T.setTop (mkF m pc Ls (.int x :: st))) := by
  subst hp; exact hst (fun _ kt => XS.i2s h hx rfl hd rfl kt) k
theorem o_i2c (hst : OwnCl p e below G) (h : At T m c below) (hx : p.tables.exec = Jvm.exec) {x : Int32} (hd : decode c.code pc = .ok (.i2c, 1)) (hp : pc + 1 = pc') (k : G (T.setTop (mkF m pc' Ls (.int (x.toUInt32.toUInt16.toUInt32.toInt32) :: st)))) : G (T.setTop (mkF m pc Ls (.int x :: st))) := by
  subst hp; exact hst (fun _ kt => XS.i2c h hx rfl hd rfl kt) k
theorem o_ishl (hst : OwnCl p e below G) (h : At T m c below) (hx : p.tables.exec = Jvm.exec) {x : Int32} {y : Int32} (hd : decode c.code pc = .ok (.ishl, 1)) (hp : pc + 1 = pc') (k : G (T.setTop (mkF m pc' Ls (.int (x <<< (y &&& 31)) :: st)))) : G (T.setTop (mkF m pc Ls (.int y :: .int x :: st))) := by
  subst hp; exact hst (fun _ kt => XS.ishl h hx rfl hd rfl kt) k
theorem o_ishr (hst : OwnCl p e below G) (h : At T m c below) (hx : p.tables.exec = Jvm.exec) {x : Int32} {y : Int32} (hd : decode c.code pc = .ok (.ishr, 1)) (hp : pc + 1 = pc') (k : G (T.setTop (mkF m pc' Ls (.int (x >>> (y &&& 31)) :: st)))) : G (T.setTop (mkF m pc Ls (.int y :: .int x :: st))) := by
  subst hp; exact hst (fun _ kt => XS.ishr h hx rfl hd rfl kt) k
theorem o_iushr (hst : OwnCl p e below G) (h : At T m c below) (hx : p.tables.exec = Jvm.exec) {x : Int32} {y : Int32} (hd : decode c.code pc = .ok (.iushr, 1)) (hp : pc + 1 = pc') (k : G (T.setTop (mkF m pc' Ls (.int ((x.toUInt32 >>> (y &&& 31).toUInt32).toInt32) :: st)))) : G (T.setTop (mkF m pc Ls (.int y :: .int x :: st))) := by
  subst hp; exact hst (fun _ kt => XS.iushr h hx rfl hd rfl kt) k
theorem o_lshl (hst : OwnCl p e below G) (h : At T m c below) (hx : p.tables.exec = Jvm.exec) {x : Int64} {y : Int32} (hd : decode c.code pc = .ok (.lshl, 1)) (hp : pc + 1 = pc') (k : G (T.setTop (mkF m pc' Ls (.long (x <<< (y &&& 0x3f).toInt64) :: st)))) : G (T.setTop (mkF m pc Ls (.int y :: .long x :: st))) := by
  subst hp; exact hst (fun _ kt => XS.lshl h hx rfl hd rfl kt) k
theorem o_lshr (hst : OwnCl p e below G) (h : At T m c below) (hx : p.tables.exec = Jvm.exec) {x : Int64} {y : Int32} (hd : decode c.code pc = .ok (.lshr, 1)) (hp : pc + 1 = pc') (k : G (T.setTop (mkF m pc' Ls (.long (x >>> (y &&& 0x3f).toInt64) :: st)))) : G (T.setTop (mkF m pc Ls (.int y :: .long x :: st))) := by
  subst hp; exact hst (fun _ kt => XS.lshr h hx rfl hd rfl kt) k
theorem o_lushr (hst : OwnCl p e below G) (h : At T m c below) (hx : p.tables.exec = Jvm.exec) {x : Int64} {y : Int32} (hd : decode c.code pc = .ok (.lushr, 1)) (hp : pc + 1 = pc') (k : G (T.setTop (mkF m pc' Ls (.long ((x.toUInt64 >>> (y &&& 0x3f).toInt64.toUInt64).toInt64) :: st)))) : G (T.setTop (mkF m pc Ls (.int y :: .long x :: st))) := by
  subst hp; exact hst (fun _ kt => XS.lushr h hx rfl hd rfl kt) k
theorem o_lcmp (hst : OwnCl p e below G) (h : At T m c below) (hx : p.tables.exec = Jvm.exec) {x y : Int64} (hd : decode c.code pc = .ok (.lcmp, 1)) (hp : pc + 1 = pc') (k : G (T.setTop (mkF m pc' Ls (.int (lcmpW x y) :: st)))) : G (T.setTop (mkF m pc Ls (.long y :: .long x :: st))) := by
  subst hp; exact hst (fun _ kt => XS.lcmp h hx rfl hd rfl kt) k
theorem o_iinc (hst : OwnCl p e below G) (h : At T m c below) (hx : p.tables.exec = Jvm.exec) {n : Nat} {i : Int} {v : Int32} (hd : decode c.code pc = .ok (.iinc n i, 3)) (hp : pc + 3 = pc') (hl : Ls[n]? = some (.val (.int v))) (hs : storeLocals Ls n (.int (v + Int32.ofInt i)) = some Lt) (k : G (T.setTop (mkF m pc' Lt (st)))) : G (T.setTop (mkF m pc Ls (st))) := by
  subst hp; exact hst (fun _ kt => XS.iinc h hx rfl hd hl hs kt) k
theorem o_dup (hst : OwnCl p e below G) (h : At T m c below) (hx : p.tables.exec = Jvm.exec) {v : Value} (hd : decode c.code pc = .ok (.dup, 1)) (hp : pc + 1 = pc') (hc : v.category = 1) (k : G (T.setTop (mkF m pc' Ls (v :: v :: st)))) : G (T.setTop (mkF m pc Ls (v :: st))) := by
  subst hp; exact hst (fun _ kt => XS.dup h hx rfl hd rfl hc kt) k
theorem o_pop (hst : OwnCl p e below G) (h : At T m c below) (hx : p.tables.exec = Jvm.exec) {v : Value} (hd : decode c.code pc = .ok (.pop, 1)) (hp : pc + 1 = pc') (hc : v.category = 1) (k : G (T.setTop (mkF m pc' Ls (st)))) : G (T.setTop (mkF m pc Ls (v :: st))) := by
  subst hp; exact hst (fun _ kt => XS.pop h hx rfl hd rfl hc kt) k
theorem o_goto (hst : OwnCl p e below G) (h : At T m c below) (hx : p.tables.exec = Jvm.exec) {o : Int} (hd : decode c.code pc = .ok (.goto o, 3)) (ho : 0 ≤ (pc : Int) + o) (hp : ((pc : Int) + o).toNat = pc') (k : G (T.setTop (mkF m pc' Ls st))) : G (T.setTop (mkF m pc Ls st)) := hst (fun _ kt => XS.goto h hx rfl rfl hd ho hp kt) k
end OwnStep
abbrev own_ST : String := "com/example/tierfold/tierfold/tiered/SharedTail"
abbrev own_SS : String := "com/example/tierfold/tierfold/tiered/SharedTails"
abbrev own_S1 : String := "com/example/tierfold/tierfold/tiered/SharedTails$1"
abbrev own_TP : String := "com/example/tierfold/tierfold/tiered/TailTreap"
abbrev own_TS : String := "com/example/tierfold/tierfold/tiered/TailSet"
abbrev own_RT : String := "com/example/tierfold/tierfold/tiered/ReachTree"
abbrev own_RUN : String := "com/example/tierfold/tierfold/tiered/SharedTail$Run"
abbrev own_dST : String := "Lcom/example/tierfold/tierfold/tiered/SharedTail;"
abbrev own_dRUN : String := "Lcom/example/tierfold/tierfold/tiered/SharedTail$Run;"
abbrev own_dTP : String := "Lcom/example/tierfold/tierfold/tiered/TailTreap;"
abbrev own_aRUN : String := "[Lcom/example/tierfold/tierfold/tiered/SharedTail$Run;"
abbrev own_dRT : String := "Lcom/example/tierfold/tierfold/tiered/ReachTree;"
abbrev own_dTS : String := "Lcom/example/tierfold/tierfold/tiered/TailSet;"
theorem own_nf {s : State} {args : Array Value} {y y1 : MethodName} (h : NotFace s y1) (hc : y1.cls = y.cls) (w : (Jvm.Cond.instanceMethod y1).before args s = true) : NotFace s y := fun r0 h0 => by
  obtain ⟨mk, meth, hn, -⟩ := Cond.instanceMethod_spec w
  obtain ⟨kr, hk, hi⟩ := h mk hn
  have e1 := findClass_of_methodNamed hn
  have e2 := findClass_of_methodNamed h0
  rw [hc] at e1
  have e : mk.cls = r0.cls := Option.some.inj (e1.symm.trans e2)
  exact ⟨kr, by rw [← e]; exact hk, hi⟩
theorem own_ne_arv {Z : State} {h : Heap} {a b : Addr} {C : String} {a0 : Array Value} {kk : Nat} {k : ClassId} {ty : FieldType} {z : Int32} {vs : List Value} {dv : Value} (E : Exa Z h a C) (wi : (Jvm.Cond.instantiable C kk).before a0 Z = true) (V : Arv Z h b k ty z vs dv) : a ≠ b := by
  obtain ⟨c, A, -⟩ := V
  exact ne_arr E wi A
theorem own_ne_arh {Z : State} {h : Heap} {a b : Addr} {C : String} {a0 : Array Value} {kk : Nat} {k : ClassId} {ty : FieldType} {z : Int32} {hs : List (Int32 × Value)} {vs : List Value} {dv : Value} (E : Exa Z h a C) (wi : (Jvm.Cond.instantiable C kk).before a0 Z = true) (V : Arh Z h b k ty z hs vs dv) : a ≠ b := by
  obtain ⟨c, A, -⟩ := V
  exact ne_arr E wi A
theorem own_Sta_keep {Z : State} {h h' : Heap} {C n d : String} {v : Value} (F : Sta Z h C n d v) (K : Keep h h' []) : Sta Z h' C n d v := by
  obtain ⟨cf, i, k, f, st, cell, h1, h2, h3, h4, h5, r⟩ := F
  exact ⟨cf, i, k, f, st, cell, h1, h2, h3, h4, K.2.1 _ _ h5 nin0, r⟩
theorem own_Sta_keepL {Z : State} {h h' : Heap} {C n d : String} {v : Value} {ws : List Addr} (F : Sta Z h C n d v) (K : Keep h h' ws) (q : ∀ x ∈ ws, ∃ D, Exa Z h x D) : Sta Z h' C n d v := by
  obtain ⟨cf, i, k, f, st, cell, h1, h2, h3, h4, h5, h6, r⟩ := F
  have nq : st ∉ ws := fun z => by
    obtain ⟨D, c1, k1, e1, -, -, e4, -⟩ := q _ z
    cases e1.symm.trans h5
    rw [h6] at e4; cases e4
  exact ⟨cf, i, k, f, st, cell, h1, h2, h3, h4, K.2.1 _ _ h5 nq, h6, r⟩
def own_QI (r : Int32) (h0 : Heap) (n0 : Nat) (v : Option Value) (h : Heap) (L : List Loc) : Prop := v = some (.int r) ∧ Fr n0 L ∧ h = h0
def own_QR (r : Value) (h0 : Heap) (n0 : Nat) (v : Option Value) (h : Heap) (L : List Loc) : Prop := v = some r ∧ Fr n0 L ∧ h = h0
def own_QV (h0 : Heap) (n0 : Nat) (v : Option Value) (h : Heap) (L : List Loc) : Prop := v = none ∧ Fr n0 L ∧ h = h0
def own_Q0 (n0 : Nat) (v : Option Value) (h : Heap) (L : List Loc) : Prop := v = some (.int (1 : Int32)) ∧ Fr n0 L
theorem own_selp {s : State} {args : Array Value} {y : MethodName} (hn : NotFace s y) (hp : s.PrivateAt y) (hi : (Jvm.Cond.instanceMethod y).before args s = true) (hy : y.cls ≠ "java/lang/invoke/MethodHandle" ∧ y.cls ≠ "java/lang/invoke/VarHandle") : (Jvm.Cond.selects y.cls y y).before args s = true := by
  obtain ⟨mk, meth, hnamed, -⟩ := Cond.instanceMethod_spec hi
  obtain ⟨kr, hk, hf⟩ := hn mk hnamed
  exact selects_self_of_private (findClass_of_methodNamed hnamed) hk hf hp hi hy
theorem own_irr32 {z : Int32} : ¬ z < z := by rw [Int32.lt_iff_toInt_lt]; omega
abbrev own_R := Addr × Int32 × Int64 × Int64
def own_as (L : List own_R) : List Addr := L.map (fun r => r.1)
def own_kk (p : Int32) (l : Int64) (p' : Int32) (l' : Int64) : Prop := p < p' ∨ (p = p' ∧ l < l')
def own_bf (x y : own_R) : Prop := own_kk x.2.1 x.2.2.1 y.2.1 y.2.2.1
def own_Nd (Z : State) (h : Heap) (a : Addr) (p : Int32) (l g : Int64) : Prop := Exa Z h a own_ST ∧ Fld Z h a own_ST "places" "I" (.int p) ∧ Fld Z h a own_ST "low" "J" (.long l) ∧ Fld Z h a own_ST "high" "J" (.long g) ∧ Fld Z h a own_ST "firstRun" own_dRUN .null ∧ ∃ z : Value, Fld Z h a own_ST "kept" "Z" z
def own_Lk (Z : State) (h : Heap) (a : Addr) (vl vr : Value) : Prop := Fld Z h a own_ST "keptLeft" own_dST vl ∧ Fld Z h a own_ST "keptRight" own_dST vr
/-- a tree of the kept tails, its nodes in their order -/
def own_Tr (Z : State) (h : Heap) : Nat → Value → List own_R → Prop
  | 0, v, L => v = .null ∧ L = []
  | k + 1, v, L => (v = .null ∧ L = []) ∨ ∃ (a : Addr) (p : Int32) (l g : Int64) (vl vr : Value) (L1 L2 : List own_R), v = .ref a ∧ L = L1 ++ (a, p, l, g) :: L2 ∧ own_Nd Z h a p l g ∧ own_Lk Z h a vl vr ∧ own_Tr Z h k vl L1 ∧ own_Tr Z h k vr L2
theorem own_as_mid (L1 L2 : List own_R) (r : own_R) : own_as (L1 ++ r :: L2) = own_as L1 ++ r.1 :: own_as L2 := by simp [own_as]
theorem own_as_app (L1 L2 : List own_R) : own_as (L1 ++ L2) = own_as L1 ++ own_as L2 := by simp [own_as]
section OwnTree
variable {Z : State} {h h' : Heap} {k : Nat} {v vl vr : Value} {a n b : Addr} {p p' : Int32} {l g l' g' : Int64} {L L1 L2 M M1 M2 La Lb : List own_R} {ws : List Addr} {r : own_R}
theorem own_Tr_0 (T : own_Tr Z h 0 v L) : v = .null ∧ L = [] := T
theorem own_Tr_S (T : own_Tr Z h (k + 1) v L) : (v = .null ∧ L = []) ∨ ∃ (a : Addr) (p : Int32) (l g : Int64) (vl vr : Value) (L1 L2 : List own_R), v = .ref a ∧ L = L1 ++ (a, p, l, g) :: L2 ∧ own_Nd Z h a p l g ∧ own_Lk Z h a vl vr ∧ own_Tr Z h k vl L1 ∧ own_Tr Z h k vr L2 := T
theorem own_Tr_null : own_Tr Z h k .null [] := by
  cases k with
  | zero => exact ⟨rfl, rfl⟩
  | succ k => exact Or.inl ⟨rfl, rfl⟩
theorem own_Tr_mk (N : own_Nd Z h a p l g) (W : own_Lk Z h a vl vr) (T1 : own_Tr Z h k vl L1) (T2 : own_Tr Z h k vr L2) : own_Tr Z h (k + 1) (.ref a) (L1 ++ (a, p, l, g) :: L2) := Or.inr ⟨a, p, l, g, vl, vr, L1, L2, rfl, rfl, N, W, T1, T2⟩
theorem own_mk1 (N : own_Nd Z h a p l g) (W : own_Lk Z h a vl vr) (T1 : own_Tr Z h k vl L1) (T2 : own_Tr Z h k vr (La ++ r :: Lb)) : own_Tr Z h (k + 1) (.ref a) ((L1 ++ (a, p, l, g) :: La) ++ r :: Lb) := by
  rw [List.append_assoc, List.cons_append]; exact own_Tr_mk N W T1 T2
theorem own_mk2 (N : own_Nd Z h a p l g) (W : own_Lk Z h a vl vr) (T1 : own_Tr Z h k vl (La ++ r :: Lb)) (T2 : own_Tr Z h k vr L2) : own_Tr Z h (k + 1) (.ref a) (La ++ r :: (Lb ++ (a, p, l, g) :: L2)) := by
  have q := own_Tr_mk N W T1 T2
  rwa [List.append_assoc, List.cons_append] at q
theorem own_Tr_mono : ∀ (k : Nat) (v : Value) (L : List own_R), own_Tr Z h k v L → own_Tr Z h (k + 1) v L := by
  intro k
  induction k with
  | zero => intro v L T; obtain ⟨rfl, rfl⟩ := own_Tr_0 T; exact own_Tr_null
  | succ k ih =>
    intro v L T
    rcases own_Tr_S T with ⟨rfl, rfl⟩ | ⟨a, p, l, g, vl, vr, L1, L2, rfl, rfl, N, W, T1, T2⟩
    · exact own_Tr_null
    · exact own_Tr_mk N W (ih _ _ T1) (ih _ _ T2)
theorem own_Tr_ref (T : own_Tr Z h k v L) : v.isRef = true := by
  cases k with
  | zero => obtain ⟨rfl, -⟩ := own_Tr_0 T; rfl
  | succ k =>
    rcases own_Tr_S T with ⟨rfl, -⟩ | ⟨a, p, l, g, vl, vr, L1, L2, rfl, -⟩
    · rfl
    · rfl
theorem own_Tr_some (T : own_Tr Z h k v (L1 ++ r :: L2)) : ∃ b, v = .ref b := by
  cases k with
  | zero => obtain ⟨-, e⟩ := own_Tr_0 T; simp at e
  | succ k =>
    rcases own_Tr_S T with ⟨-, e⟩ | ⟨a, p, l, g, vl, vr, L1', L2', rfl, -⟩
    · simp at e
    · exact ⟨a, rfl⟩
theorem own_Nd_keep (N : own_Nd Z h a p l g) (K : Keep h h' ws) (q : a ∉ ws) : own_Nd Z h' a p l g := by
  obtain ⟨E, F1, F2, F3, F4, z, F5⟩ := N
  exact ⟨E.keep K, F1.keep K q, F2.keep K q, F3.keep K q, F4.keep K q, z, F5.keep K q⟩
theorem own_Tr_keep (K : Keep h h' ws) : ∀ (k : Nat) (v : Value) (L : List own_R), own_Tr Z h k v L → (∀ x ∈ own_as L, x ∉ ws) → own_Tr Z h' k v L := by
  intro k
  induction k with
  | zero => intro v L T _; obtain ⟨rfl, rfl⟩ := own_Tr_0 T; exact own_Tr_null
  | succ k ih =>
    intro v L T q
    rcases own_Tr_S T with ⟨rfl, rfl⟩ | ⟨a, p, l, g, vl, vr, L1, L2, rfl, rfl, N, W, T1, T2⟩
    · exact own_Tr_null
    · rw [own_as_mid] at q
      have qa : a ∉ ws := q a (List.mem_append.mpr (Or.inr (List.mem_cons.mpr (Or.inl rfl))))
      exact own_Tr_mk (own_Nd_keep N K qa) ⟨W.1.keep K qa, W.2.keep K qa⟩ (ih _ _ T1 fun x hx => q x (List.mem_append.mpr (Or.inl hx))) (ih _ _ T2 fun x hx => q x (List.mem_append.mpr (Or.inr (List.mem_cons.mpr (Or.inr hx)))))
def own_Sl (Z : State) : Prop := Jvm.RoadKit.slotOf Z own_ST "places" "I" ≠ Jvm.RoadKit.slotOf Z own_ST "kept" "Z" ∧ Jvm.RoadKit.slotOf Z own_ST "low" "J" ≠ Jvm.RoadKit.slotOf Z own_ST "kept" "Z" ∧ Jvm.RoadKit.slotOf Z own_ST "high" "J" ≠ Jvm.RoadKit.slotOf Z own_ST "kept" "Z" ∧ Jvm.RoadKit.slotOf Z own_ST "firstRun" own_dRUN ≠ Jvm.RoadKit.slotOf Z own_ST "kept" "Z" ∧ Jvm.RoadKit.slotOf Z own_ST "keptLeft" own_dST ≠ Jvm.RoadKit.slotOf Z own_ST "kept" "Z" ∧ Jvm.RoadKit.slotOf Z own_ST "keptRight" own_dST ≠ Jvm.RoadKit.slotOf Z own_ST "kept" "Z"
theorem own_Tr_wrK {u : Value} (W : Wr h h' b (Jvm.RoadKit.slotOf Z own_ST "kept" "Z") u) (q : own_Sl Z) : ∀ (k : Nat) (v : Value) (L : List own_R), own_Tr Z h k v L → own_Tr Z h' k v L := by
  intro k
  induction k with
  | zero => intro v L T; obtain ⟨rfl, rfl⟩ := own_Tr_0 T; exact own_Tr_null
  | succ k ih =>
    intro v L T
    rcases own_Tr_S T with ⟨rfl, rfl⟩ | ⟨a, p, l, g, vl, vr, L1, L2, rfl, rfl, N, Y, T1, T2⟩
    · exact own_Tr_null
    · obtain ⟨E, F1, F2, F3, F4, z, F5⟩ := N
      obtain ⟨q1, q2, q3, q4, q5, q6⟩ := q
      have F6 : ∃ z : Value, Fld Z h' a own_ST "kept" "Z" z := by
        by_cases e : a = b
        · subst e; exact ⟨u, Fld.same W F5⟩
        · exact ⟨z, Fld.other W F5 (Or.inl e)⟩
      exact own_Tr_mk ⟨Exa.wr W E, Fld.other W F1 (Or.inr q1), Fld.other W F2 (Or.inr q2), Fld.other W F3 (Or.inr q3), Fld.other W F4 (Or.inr q4), F6⟩ ⟨Fld.other W Y.1 (Or.inr q5), Fld.other W Y.2 (Or.inr q6)⟩ (ih _ _ T1) (ih _ _ T2)
theorem own_Tr_nd : ∀ (k : Nat) (v : Value) (L : List own_R), own_Tr Z h k v L → ∀ x ∈ L, own_Nd Z h x.1 x.2.1 x.2.2.1 x.2.2.2 := by
  intro k
  induction k with
  | zero => intro v L T x hx; obtain ⟨-, rfl⟩ := own_Tr_0 T; cases hx
  | succ k ih =>
    intro v L T x hx
    rcases own_Tr_S T with ⟨-, rfl⟩ | ⟨a, p, l, g, vl, vr, L1, L2, -, rfl, N, Y, T1, T2⟩
    · cases hx
    · rcases List.mem_append.mp hx with hx | hx
      · exact ih _ _ T1 x hx
      · rcases List.mem_cons.mp hx with rfl | hx
        · exact N
        · exact ih _ _ T2 x hx
theorem own_Tr_exa (T : own_Tr Z h k v L) (x : Addr) (hx : x ∈ own_as L) : Exa Z h x own_ST := by
  obtain ⟨r, hr, rfl⟩ := List.mem_map.mp hx
  exact (own_Tr_nd _ _ _ T r hr).1
theorem own_Tr_fresh (T : own_Tr Z h k v L) (q : h.size ≤ a) : a ∉ own_as L := fun hx => absurd (own_Tr_exa T a hx).lt (Nat.not_lt.mpr q)
theorem own_ninX {C : String} (E : Exa Z h a C) (T : own_Tr Z h k v L) (q : C ≠ own_ST) : a ∉ own_as L := fun hx => ne_exa E (own_Tr_exa T a hx) q rfl
theorem own_ninV {kk : ClassId} {ty : FieldType} {z : Int32} {vs : List Value} {dv : Value} {a0 : Array Value} {i : Nat} (V : Arv Z h a kk ty z vs dv) (T : own_Tr Z h k v L) (w : (Jvm.Cond.instantiable own_ST i).before a0 Z = true) : a ∉ own_as L := fun hx => own_ne_arv (own_Tr_exa T a hx) w V rfl
theorem own_nw (hb : b ∉ own_as L) : ∀ x ∈ own_as L, x ∉ [b] := fun x hx z => hb ((List.mem_singleton.mp z) ▸ hx)
theorem own_nc (hn : n ∉ own_as L) (hd : ∀ x ∈ own_as L, x ∉ own_as M) : ∀ x ∈ own_as L, x ∉ n :: own_as M := fun x hx z => (List.mem_cons.mp z).elim (fun e => hn (e ▸ hx)) (hd x hx)
theorem own_subc {m : Nat} (q : ∀ x ∈ own_as M, x ∈ own_as L) : ∀ x ∈ n :: own_as M, x ∈ n :: own_as L ∨ m ≤ x := fun x z => Or.inl ((List.mem_cons.mp z).elim (fun e => List.mem_cons.mpr (Or.inl e)) fun y => List.mem_cons.mpr (Or.inr (q x y)))
theorem own_in_m : a ∈ own_as (L1 ++ (a, p, l, g) :: L2) := by rw [own_as_mid]; exact List.mem_append.mpr (Or.inr (List.mem_cons.mpr (Or.inl rfl)))
theorem own_in_l {x : Addr} (hx : x ∈ own_as L1) : x ∈ own_as (L1 ++ r :: L2) := by rw [own_as_mid]; exact List.mem_append.mpr (Or.inl hx)
theorem own_in_r {x : Addr} (hx : x ∈ own_as L2) : x ∈ own_as (L1 ++ r :: L2) := by rw [own_as_mid]; exact List.mem_append.mpr (Or.inr (List.mem_cons.mpr (Or.inr hx)))
theorem own_nin (D : n ∉ own_as (L1 ++ (a, p, l, g) :: L2)) : n ∉ own_as L1 ∧ n ≠ a ∧ n ∉ own_as L2 := ⟨fun z => D (own_in_l z), fun z => D (by rw [z]; exact own_in_m), fun z => D (own_in_r z)⟩
theorem own_ninA (D : n ∉ own_as (L1 ++ L2)) : n ∉ own_as L1 ∧ n ∉ own_as L2 := by rw [own_as_app] at D; exact ⟨fun z => D (List.mem_append.mpr (Or.inl z)), fun z => D (List.mem_append.mpr (Or.inr z))⟩
theorem own_ninE (e : L = L1 ++ L2) (D : n ∉ own_as L) : n ∉ own_as L1 ∧ n ∉ own_as L2 := by subst e; exact own_ninA D
theorem own_ninM (D : a ∉ own_as (La ++ Lb)) (q : a ≠ n) : a ∉ own_as (La ++ (n, p, l, g) :: Lb) := by
  obtain ⟨d1, d2⟩ := own_ninA D
  rw [own_as_mid]
  intro z
  rcases List.mem_append.mp z with z | z
  · exact d1 z
  · rcases List.mem_cons.mp z with z | z
    · exact q z
    · exact d2 z
theorem own_D (D : (own_as (L1 ++ (a, p, l, g) :: L2)).Pairwise (· ≠ ·)) : a ∉ own_as L1 ∧ a ∉ own_as L2 ∧ (∀ x ∈ own_as L1, x ∉ own_as L2) ∧ (own_as L1).Pairwise (· ≠ ·) ∧ (own_as L2).Pairwise (· ≠ ·) := by
  rw [own_as_mid, List.pairwise_append, List.pairwise_cons] at D
  obtain ⟨D1, ⟨D2, D3⟩, D4⟩ := D
  exact ⟨fun z => D4 a z a (List.mem_cons.mpr (Or.inl rfl)) rfl, fun z => D2 a z rfl, fun x z y => D4 x z x (List.mem_cons.mpr (Or.inr y)) rfl, D1, D3⟩
theorem own_S (S : (L1 ++ r :: L2).Pairwise own_bf) : (∀ x ∈ L1, own_bf x r) ∧ (∀ x ∈ L2, own_bf r x) ∧ L1.Pairwise own_bf ∧ L2.Pairwise own_bf := by
  rw [List.pairwise_append, List.pairwise_cons] at S
  obtain ⟨S1, ⟨S2, S3⟩, S4⟩ := S
  exact ⟨fun x z => S4 x z r (List.mem_cons.mpr (Or.inl rfl)), S2, S1, S3⟩
theorem own_kk_iff {p p' : Int32} {l l' : Int64} : own_kk p l p' l' ↔ (p.toInt < p'.toInt ∨ (p.toInt = p'.toInt ∧ l.toInt < l'.toInt)) := by
  unfold own_kk; rw [Int32.lt_iff_toInt_lt, Int64.lt_iff_toInt_lt, Int32.toInt_inj]
theorem own_kk_trans {p1 p2 p3 : Int32} {l1 l2 l3 : Int64} (x : own_kk p1 l1 p2 l2) (y : own_kk p2 l2 p3 l3) : own_kk p1 l1 p3 l3 := by
  rw [own_kk_iff] at x y ⊢; omega
theorem own_sp1 {pn : Int32} {ln : Int64} (s : ∀ x ∈ L1, own_bf x (a, p, l, g)) (hb : own_kk p l pn ln) (B : ∀ x ∈ M, own_kk x.2.1 x.2.2.1 pn ln) : ∀ x ∈ L1 ++ (a, p, l, g) :: M, own_kk x.2.1 x.2.2.1 pn ln := by
  intro x hx
  rcases List.mem_append.mp hx with hx | hx
  · exact own_kk_trans (s x hx) hb
  · rcases List.mem_cons.mp hx with rfl | hx
    · exact hb
    · exact B x hx
theorem own_sp2 {pn : Int32} {ln : Int64} (s : ∀ x ∈ L2, own_bf (a, p, l, g) x) (hb : ¬ own_kk p l pn ln) (B : ∀ x ∈ M, ¬ own_kk x.2.1 x.2.2.1 pn ln) : ∀ x ∈ M ++ (a, p, l, g) :: L2, ¬ own_kk x.2.1 x.2.2.1 pn ln := by
  intro x hx
  rcases List.mem_append.mp hx with hx | hx
  · exact B x hx
  · rcases List.mem_cons.mp hx with rfl | hx
    · exact hb
    · exact fun z => hb (own_kk_trans (s x hx) z)
theorem own_sp3 {pn : Int32} {ln : Int64} (s : ∀ x ∈ L2, own_bf (a, p, l, g) x) (hb : own_kk pn ln p l) (B : ∀ x ∈ M, own_kk pn ln x.2.1 x.2.2.1) : ∀ x ∈ M ++ (a, p, l, g) :: L2, own_kk pn ln x.2.1 x.2.2.1 := by
  intro x hx
  rcases List.mem_append.mp hx with hx | hx
  · exact B x hx
  · rcases List.mem_cons.mp hx with rfl | hx
    · exact hb
    · exact own_kk_trans hb (s x hx)
theorem own_gt {pn : Int32} {ln : Int64} (H : ∀ x ∈ L, own_kk x.2.1 x.2.2.1 pn ln ∨ own_kk pn ln x.2.1 x.2.2.1) (e : L = M1 ++ M2) (B : ∀ x ∈ M2, ¬ own_kk x.2.1 x.2.2.1 pn ln) : ∀ x ∈ M2, own_kk pn ln x.2.1 x.2.2.1 := fun x hx => (H x (by rw [e]; exact List.mem_append.mpr (Or.inr hx))).resolve_left (B x hx)
/-- the list with the new node -/
theorem own_step {n0 : Nat} {t : Addr} {pn : Int32} {ln gn : Int64} (S : L.Pairwise own_bf) (D : (own_as L).Pairwise (· ≠ ·)) (B : ∀ x ∈ own_as L, n0 ≤ x) (e : L = La ++ Lb) (b1 : ∀ x ∈ La, own_kk x.2.1 x.2.2.1 pn ln) (b2 : ∀ x ∈ Lb, own_kk pn ln x.2.1 x.2.2.1) (ht : t ∉ own_as L) (hn : n0 ≤ t) :
    (La ++ (t, pn, ln, gn) :: Lb).Pairwise own_bf ∧ (own_as (La ++ (t, pn, ln, gn) :: Lb)).Pairwise (· ≠ ·) ∧ (∀ x ∈ own_as (La ++ (t, pn, ln, gn) :: Lb), n0 ≤ x) ∧ ∀ x : own_R, x ∈ La ++ (t, pn, ln, gn) :: Lb ↔ x = (t, pn, ln, gn) ∨ x ∈ L := by
  subst e
  obtain ⟨t1, t2⟩ := own_ninA ht
  rw [List.pairwise_append] at S
  rw [own_as_app, List.pairwise_append] at D
  refine ⟨?_, ?_, ?_, ?_⟩
  · rw [List.pairwise_append, List.pairwise_cons]
    refine ⟨S.1, ⟨b2, S.2.1⟩, fun x hx y hy => ?_⟩
    rcases List.mem_cons.mp hy with rfl | hy
    · exact b1 x hx
    · exact S.2.2 x hx y hy
  · rw [own_as_mid, List.pairwise_append, List.pairwise_cons]
    refine ⟨D.1, ⟨fun x hx z => t2 (by rw [show t = x from z]; exact hx), D.2.1⟩, fun x hx y hy => ?_⟩
    rcases List.mem_cons.mp hy with hy | hy
    · exact fun z => t1 (by rw [show t = x from (z.trans hy).symm]; exact hx)
    · exact D.2.2 x hx y hy
  · intro x hx
    rw [own_as_mid] at hx
    rcases List.mem_append.mp hx with hx | hx
    · exact B x (by rw [own_as_app]; exact List.mem_append.mpr (Or.inl hx))
    · rcases List.mem_cons.mp hx with rfl | hx
      · exact hn
      · exact B x (by rw [own_as_app]; exact List.mem_append.mpr (Or.inr hx))
  · intro x
    simp only [List.mem_append, List.mem_cons]
    constructor
    · rintro (h | h | h)
      · exact Or.inr (Or.inl h)
      · exact Or.inl h
      · exact Or.inr (Or.inr h)
    · rintro (h | h | h)
      · exact Or.inr (Or.inl h)
      · exact Or.inl h
      · exact Or.inr (Or.inr h)
end OwnTree
def own_bI (p : Int32) (l : Int64) (p' : Int32) (l' : Int64) : Int32 := if p = p' then (if l < l' then 1 else 0) else (if p < p' then 1 else 0)
theorem own_bI_ne {p p' : Int32} {l l' : Int64} (h : ¬ own_bI p l p' l' = 0) : own_kk p l p' l' := by
  unfold own_bI at h; unfold own_kk
  split at h
  · split at h
    · exact Or.inr ⟨by assumption, by assumption⟩
    · exact absurd rfl h
  · split at h
    · exact Or.inl (by assumption)
    · exact absurd rfl h
theorem own_bI_eq {p p' : Int32} {l l' : Int64} (h : own_bI p l p' l' = 0) : ¬ own_kk p l p' l' := by
  unfold own_bI at h
  rw [own_kk_iff]
  split at h
  · split at h
    · exact absurd h (by decide)
    · rename_i e q
      subst e
      rw [Int64.lt_iff_toInt_lt] at q; omega
  · split at h
    · exact absurd h (by decide)
    · rename_i e q
      rw [← Int32.toInt_inj] at e
      rw [Int32.lt_iff_toInt_lt] at q; omega
def own_pr (p : Int32) (l : Int64) : Int32 :=
  let x := (l * (-7046029254386353131 : Int64)) + p.toInt64
  let y := (x ^^^ (x.toUInt64 >>> ((33 : Int32) &&& 0x3f).toInt64.toUInt64).toInt64) * (-49064778989728563 : Int64)
  (y ^^^ (y.toUInt64 >>> ((33 : Int32) &&& 0x3f).toInt64.toUInt64).toInt64).toInt32
def own_sh (x d : Int64) : Int64 := if d < 0 then (if x < (-9223372036854775808 : Int64) - d then -9223372036854775808 else x + d) else (if (9223372036854775807 : Int64) - d < x then 9223372036854775807 else x + d)
def own_cl (p1 : Int32) (l1 g1 : Int64) (p2 : Int32) (l2 g2 : Int64) : Int32 := if p1 = p2 then (if l1 = l2 then 1 else if l1 < g2 then (if l2 < g1 then 1 else 0) else 0) else 0
def own_ho (p : Int32) (l g : Int64) (q : Int32) (r : Int64) : Int32 := if p = q then (if r < l then 0 else if r < g then 1 else 0) else 0
theorem own_d8 (s : Int32) : 1 ≤ (((1 : Int32) + (s &&& (7 : Int32))).toInt64).toInt ∧ (((1 : Int32) + (s &&& (7 : Int32))).toInt64).toInt ≤ 8 := by
  have h1 := c_mask s 7 3 (by decide) (by decide)
  have p : ((2 ^ 3 : Nat) : Int) = 8 := by decide
  rw [p] at h1
  have h2 := c_iadd (1 : Int32) (s &&& (7 : Int32))
  have b1 := Int32.le_toInt ((1 : Int32) + (s &&& (7 : Int32)))
  have b2 := Int32.toInt_lt ((1 : Int32) + (s &&& (7 : Int32)))
  have e1 : (1 : Int32).toInt = 1 := rfl
  rw [c_i2l]
  rw [e1, h1] at h2
  generalize ((1 : Int32) + (s &&& (7 : Int32))).toInt = X at h2 b1 b2 ⊢
  generalize s.toInt = Y at h2
  omega
theorem own_sh_ge (x : Int64) (s : Int32) : ¬ own_sh x (((1 : Int32) + (s &&& (7 : Int32))).toInt64) < x := by
  have hd := own_d8 s
  generalize ((1 : Int32) + (s &&& (7 : Int32))).toInt64 = d at hd ⊢
  have bx := Int64.le_toInt x
  have bx' := Int64.toInt_lt x
  have eM : (9223372036854775807 : Int64).toInt = 9223372036854775807 := by decide
  have hS : ((9223372036854775807 : Int64) - d).toInt = 9223372036854775807 - d.toInt := by
    rw [Int64.toInt_sub, eM]; exact Int.bmod_eq_of_le (by omega) (by omega)
  unfold own_sh
  rw [if_neg (by rw [Int64.lt_iff_toInt_lt, show (0 : Int64).toInt = 0 from rfl]; omega)]
  by_cases q : (9223372036854775807 : Int64) - d < x
  · rw [if_pos q, Int64.lt_iff_toInt_lt, eM]; omega
  · rw [if_neg q]
    rw [Int64.lt_iff_toInt_lt, hS] at q
    have hA : (x + d).toInt = x.toInt + d.toInt := by
      rw [Int64.toInt_add]; exact Int.bmod_eq_of_le (by omega) (by omega)
    rw [Int64.lt_iff_toInt_lt, hA]; omega
theorem own_clP {p1 p2 : Int32} {l1 g1 l2 g2 : Int64} (h : own_cl p1 l1 g1 p2 l2 g2 = 0) (e : p1 = p2) : ¬ l1 = l2 ∧ (¬ l1 < g2 ∨ ¬ l2 < g1) := by
  unfold own_cl at h
  rw [if_pos e] at h
  by_cases a : l1 = l2
  · rw [if_pos a] at h; exact absurd h (by decide)
  · refine ⟨a, ?_⟩
    rw [if_neg a] at h
    by_cases b : l1 < g2
    · rw [if_pos b] at h
      by_cases c : l2 < g1
      · rw [if_pos c] at h; exact absurd h (by decide)
      · exact Or.inr c
    · exact Or.inl b
theorem own_cmpc {p1 p2 : Int32} {l1 g1 l2 g2 : Int64} (h : own_cl p1 l1 g1 p2 l2 g2 = 0) : own_kk p1 l1 p2 l2 ∨ own_kk p2 l2 p1 l1 := by
  rw [own_kk_iff, own_kk_iff]
  by_cases e : p1 = p2
  · have q := (own_clP h e).1
    rw [← Int64.toInt_inj] at q
    subst e; omega
  · rw [← Int32.toInt_inj] at e; omega
/-- two that don't clash, in order -/
theorem own_apart {p1 p2 : Int32} {l1 g1 l2 g2 : Int64} (h : own_cl p1 l1 g1 p2 l2 g2 = 0) (h1 : ¬ g1 < l1) (h2 : ¬ g2 < l2) (e : p1 = p2) : (l1 < l2 → ¬ l2 < g1) ∧ (l2 < l1 → ¬ l1 < g2) := by
  have q := (own_clP h e).2
  rw [Int64.lt_iff_toInt_lt] at h1 h2
  simp only [Int64.lt_iff_toInt_lt] at q ⊢
  constructor <;> intro z <;> omega
def own_leB (q : Int32) (r : Int64) (x : own_R) : Bool := decide (x.2.1 < q) || (decide (x.2.1 = q) && !decide (r < x.2.2.1))
def own_best (q : Int32) (r : Int64) (b : Option own_R) (L : List own_R) : Option own_R := L.foldl (fun acc x => if own_leB q r x = true then some x else acc) b
def own_fd (q : Int32) (r : Int64) (o : Option own_R) : Value := match o with
  | none => .null
  | some x => if x.2.1 = q ∧ r < x.2.2.2 then .ref x.1 else .null
theorem own_fd_ref (q : Int32) (r : Int64) (o : Option own_R) : (own_fd q r o).isRef = true := by
  cases o with
  | none => rfl
  | some x => unfold own_fd; dsimp only; split <;> rfl
section OwnBest
variable {q : Int32} {r : Int64} {b : Option own_R} {x : own_R} {L L1 L2 : List own_R}
theorem own_best_nil : own_best q r b [] = b := rfl
theorem own_best_cons : own_best q r b (x :: L) = own_best q r (if own_leB q r x = true then some x else b) L := rfl
theorem own_best_app : own_best q r b (L1 ++ L2) = own_best q r (own_best q r b L1) L2 := by unfold own_best; rw [List.foldl_append]
theorem own_best_yes (h : own_leB q r x = true) : own_best q r b (L1 ++ x :: L2) = own_best q r (some x) L2 := by rw [own_best_app, own_best_cons, if_pos h]
theorem own_best_none : ∀ (L : List own_R) (b : Option own_R), (∀ y ∈ L, own_leB q r y = false) → own_best q r b L = b := by
  intro L
  induction L with
  | nil => intro b _; rfl
  | cons y L ih =>
    intro b h
    rw [own_best_cons, if_neg (by rw [h y (List.mem_cons.mpr (Or.inl rfl))]; decide)]
    exact ih b fun z hz => h z (List.mem_cons.mpr (Or.inr hz))
theorem own_best_mem : ∀ (L : List own_R) (b : Option own_R) (x : own_R), own_best q r b L = some x → b = some x ∨ (x ∈ L ∧ own_leB q r x = true) := by
  intro L
  induction L with
  | nil => intro b x h; exact Or.inl h
  | cons y L ih =>
    intro b x h
    rw [own_best_cons] at h
    rcases ih _ _ h with e | ⟨e1, e2⟩
    · by_cases c : own_leB q r y = true
      · rw [if_pos c] at e
        cases e
        exact Or.inr ⟨List.mem_cons.mpr (Or.inl rfl), c⟩
      · rw [if_neg c] at e; exact Or.inl e
    · exact Or.inr ⟨List.mem_cons.mpr (Or.inr e1), e2⟩
theorem own_leB_t (h : own_leB q r x = true) : x.2.1 < q ∨ (x.2.1 = q ∧ ¬ r < x.2.2.1) := by
  unfold own_leB at h
  simpa using h
theorem own_leB_of (h : x.2.1 < q ∨ (x.2.1 = q ∧ ¬ r < x.2.2.1)) : own_leB q r x = true := by
  unfold own_leB
  simpa using h
theorem own_leB_f (h : ¬ (x.2.1 < q ∨ (x.2.1 = q ∧ ¬ r < x.2.2.1))) : own_leB q r x = false := by
  cases e : own_leB q r x with
  | false => rfl
  | true => exact absurd (own_leB_t e) h
theorem own_best_no {y : own_R} (h : own_leB q r y = false) (s : ∀ z ∈ L2, own_bf y z) : own_best q r b (L1 ++ y :: L2) = own_best q r b L1 := by
  rw [own_best_app, own_best_cons, if_neg (by rw [h]; decide)]
  refine own_best_none _ _ fun z hz => own_leB_f fun c => ?_
  have k := s z hz
  have k2 : ¬ (y.2.1 < q ∨ (y.2.1 = q ∧ ¬ r < y.2.2.1)) := fun c => by rw [own_leB_of c] at h; cases h
  unfold own_bf at k
  rw [own_kk_iff] at k
  simp only [Int32.lt_iff_toInt_lt, Int64.lt_iff_toInt_lt, ← Int32.toInt_inj] at c k2
  omega
theorem own_best_hit (S : L.Pairwise own_bf) (hP : ∀ x ∈ L, ∀ y ∈ L, own_bf x y → x.2.1 = y.2.1 → ¬ y.2.2.1 < x.2.2.2) (hx : x ∈ L) (h1 : x.2.1 = q) (h2 : ¬ r < x.2.2.1) (h3 : r < x.2.2.2) : own_best q r b L = some x := by
  obtain ⟨L1, L2, rfl⟩ := List.append_of_mem hx
  rw [own_best_yes (own_leB_of (Or.inr ⟨h1, h2⟩))]
  refine own_best_none _ _ fun z hz => own_leB_f fun c => ?_
  have k := (own_S S).2.1 z hz
  have p := hP x hx z (List.mem_append.mpr (Or.inr (List.mem_cons.mpr (Or.inr hz)))) k
  unfold own_bf at k
  rw [own_kk_iff] at k
  simp only [Int32.lt_iff_toInt_lt, Int64.lt_iff_toInt_lt, ← Int32.toInt_inj] at c p h1 h2 h3
  omega
end OwnBest
def own_exp (hA hB hC : Int32) (tA tB tC : Addr) : Value := if hC = 0 then (if hB = 0 then (if hA = 0 then .null else .ref tA) else .ref tB) else .ref tC
theorem own_ho_ne {p q : Int32} {l g r : Int64} (h : ¬ own_ho p l g q r = 0) : p = q ∧ ¬ r < l ∧ r < g := by
  unfold own_ho at h
  by_cases a : p = q
  · rw [if_pos a] at h
    by_cases b : r < l
    · rw [if_pos b] at h; exact absurd rfl h
    · rw [if_neg b] at h
      by_cases c : r < g
      · exact ⟨a, b, c⟩
      · rw [if_neg c] at h; exact absurd rfl h
  · rw [if_neg a] at h; exact absurd rfl h
theorem own_ho_yes {p q : Int32} {l g r : Int64} (a : p = q) (b : ¬ r < l) (c : r < g) : ¬ own_ho p l g q r = 0 := by
  unfold own_ho; rw [if_pos a, if_neg b, if_pos c]; decide
theorem own_final {L L1 L2 : List own_R} {tA tB tC : Addr} {pA pB pC q : Int32} {lA gA lB gB lC gC r : Int64} (S : L.Pairwise own_bf) (m3 : ∀ x : own_R, x ∈ L ↔ x = (tC, pC, lC, gC) ∨ x ∈ L2) (m2 : ∀ x : own_R, x ∈ L2 ↔ x = (tB, pB, lB, gB) ∨ x ∈ L1) (m1 : ∀ x : own_R, x ∈ L1 ↔ x = (tA, pA, lA, gA) ∨ x ∈ ([] : List own_R))
    (hAB : own_cl pA lA gA pB lB gB = 0) (hAC : own_cl pA lA gA pC lC gC = 0) (hBC : own_cl pB lB gB pC lC gC = 0) (hA : ¬ gA < lA) (hB : ¬ gB < lB) (hC : ¬ gC < lC) :
    own_fd q r (own_best q r none L) = own_exp (own_ho pA lA gA q r) (own_ho pB lB gB q r) (own_ho pC lC gC q r) tA tB tC := by
  have mem : ∀ x : own_R, x ∈ L ↔ x = (tA, pA, lA, gA) ∨ x = (tB, pB, lB, gB) ∨ x = (tC, pC, lC, gC) := by
    intro x
    rw [m3, m2, m1]
    simp only [List.not_mem_nil, or_false]
    constructor
    · rintro (h | h | h)
      · exact Or.inr (Or.inr h)
      · exact Or.inr (Or.inl h)
      · exact Or.inl h
    · rintro (h | h | h)
      · exact Or.inr (Or.inr h)
      · exact Or.inr (Or.inl h)
      · exact Or.inl h
  have lt : ∀ {x y : own_R}, own_bf x y → x.2.1 = y.2.1 → x.2.2.1 < y.2.2.1 := by
    intro x y k e
    rcases k with k | k
    · rw [e] at k; exact absurd k own_irr32
    · exact k.2
  have irr : ∀ {z : Int64}, ¬ z < z := fun {z} => by rw [Int64.lt_iff_toInt_lt]; omega
  have hP : ∀ x ∈ L, ∀ y ∈ L, own_bf x y → x.2.1 = y.2.1 → ¬ y.2.2.1 < x.2.2.2 := by
    intro x hx y hy k e
    have k2 := lt k e
    rcases (mem x).mp hx with rfl | rfl | rfl <;> rcases (mem y).mp hy with rfl | rfl | rfl
    · exact absurd k2 irr
    · exact (own_apart hAB hA hB e).1 k2
    · exact (own_apart hAC hA hC e).1 k2
    · exact (own_apart hAB hA hB e.symm).2 k2
    · exact absurd k2 irr
    · exact (own_apart hBC hB hC e).1 k2
    · exact (own_apart hAC hA hC e.symm).2 k2
    · exact (own_apart hBC hB hC e.symm).2 k2
    · exact absurd k2 irr
  have hit : ∀ (t : Addr) (p : Int32) (l g : Int64), (t, p, l, g) ∈ L → ¬ own_ho p l g q r = 0 → own_fd q r (own_best q r none L) = .ref t := by
    intro t p l g hm hh
    obtain ⟨a, b, c⟩ := own_ho_ne hh
    rw [own_best_hit (x := (t, p, l, g)) S hP hm a b c]
    show (if p = q ∧ r < g then Value.ref t else .null) = .ref t
    rw [if_pos ⟨a, c⟩]
  unfold own_exp
  by_cases cC : own_ho pC lC gC q r = 0
  · rw [if_pos cC]
    by_cases cB : own_ho pB lB gB q r = 0
    · rw [if_pos cB]
      by_cases cA : own_ho pA lA gA q r = 0
      · rw [if_pos cA]
        cases e : own_best q r none L with
        | none => rfl
        | some x =>
          show (if x.2.1 = q ∧ r < x.2.2.2 then Value.ref x.1 else .null) = .null
          rw [if_neg]
          rintro ⟨e1, e2⟩
          rcases own_best_mem L none x e with z | ⟨hx, hl⟩
          · cases z
          · have hn : ¬ r < x.2.2.1 := by
              rcases own_leB_t hl with w | w
              · rw [e1] at w; exact absurd w own_irr32
              · exact w.2
            have hh := own_ho_yes e1 hn e2
            rcases (mem x).mp hx with rfl | rfl | rfl
            · exact hh cA
            · exact hh cB
            · exact hh cC
      · rw [if_neg cA]; exact hit _ _ _ _ ((mem _).mpr (Or.inl rfl)) cA
    · rw [if_neg cB]; exact hit _ _ _ _ ((mem _).mpr (Or.inr (Or.inl rfl))) cB
  · rw [if_neg cC]; exact hit _ _ _ _ ((mem _).mpr (Or.inr (Or.inr rfl))) cC
def own_B (Z : State) (h : Heap) (bv : Value) (b : Option own_R) : Prop := (bv = .null ∧ b = none) ∨ ∃ (a : Addr) (p : Int32) (l g : Int64), bv = .ref a ∧ b = some (a, p, l, g) ∧ own_Nd Z h a p l g
theorem own_B_ref {Z : State} {h : Heap} {bv : Value} {b : Option own_R} (B : own_B Z h bv b) : bv.isRef = true := by
  rcases B with ⟨rfl, -⟩ | ⟨a, p, l, g, rfl, -⟩
  · rfl
  · rfl
def own_Qsp (Z : State) (k : Nat) (pn : Int32) (ln : Int64) (Lq : List own_R) (h0 : Heap) (n0 : Nat) (v : Option Value) (h : Heap) (L : List Loc) : Prop := ∃ (ar : Addr) (kar : ClassId) (w1 w2 : Value) (M1 M2 : List own_R), v = some (.ref ar) ∧ Fr n0 L ∧ Keep h0 h (own_as Lq) ∧ h0.size ≤ ar ∧ Arv Z h ar kar (.object own_ST) (2 : Int32) [w1, w2] .null ∧ Ovr Z kar own_ST ∧ own_Tr Z h k w1 M1 ∧ own_Tr Z h k w2 M2 ∧ Lq = M1 ++ M2 ∧ (∀ x ∈ M1, own_kk x.2.1 x.2.2.1 pn ln) ∧ (∀ x ∈ M2, ¬ own_kk x.2.1 x.2.2.1 pn ln)
def own_Qin (Z : State) (k : Nat) (n : Addr) (pn : Int32) (ln gn : Int64) (Lq : List own_R) (h0 : Heap) (n0 : Nat) (v : Option Value) (h : Heap) (L : List Loc) : Prop := ∃ (rb : Addr) (La Lb : List own_R), v = some (.ref rb) ∧ Fr n0 L ∧ Keep h0 h (n :: own_as Lq) ∧ own_Tr Z h k (.ref rb) (La ++ (n, pn, ln, gn) :: Lb) ∧ Lq = La ++ Lb ∧ (∀ x ∈ La, own_kk x.2.1 x.2.2.1 pn ln) ∧ (∀ x ∈ Lb, own_kk pn ln x.2.1 x.2.2.1)
def own_Qse (Z : State) (a : Addr) (vl vr : Value) (pa : Int32) (la ga : Int64) (h0 : Heap) (n0 : Nat) (v : Option Value) (h : Heap) (L : List Loc) : Prop := v = none ∧ Fr n0 L ∧ Keep h0 h [a] ∧ own_Nd Z h a pa la ga ∧ own_Lk Z h a vl vr
def own_QK (ws : List Addr) (h0 : Heap) (n0 : Nat) (v : Option Value) (h : Heap) (L : List Loc) : Prop := v = none ∧ Fr n0 L ∧ Keep h0 h ws
def own_Qrs (Z : State) (reg : Addr) (h0 : Heap) (n0 : Nat) (v : Option Value) (h : Heap) (L : List Loc) : Prop := v = none ∧ Fr n0 L ∧ Keep h0 h [reg] ∧ Fld Z h reg own_SS "kept" own_dST .null
def own_Qal (h0 : Heap) (n0 : Nat) (v : Option Value) (h : Heap) (L : List Loc) : Prop := ∃ ts : Addr, v = some (.ref ts) ∧ Fr n0 L ∧ Keep h0 h []
def own_Qad (Z : State) (k : Nat) (reg : Addr) (pq : Int32) (lo hi : Int64) (Lq : List own_R) (h0 : Heap) (n0 : Nat) (v : Option Value) (h : Heap) (L : List Loc) : Prop := ∃ (t rb : Addr) (La Lb : List own_R), v = some (.ref t) ∧ Fr n0 L ∧ Keep h0 h (reg :: own_as Lq) ∧ h0.size ≤ t ∧ Fld Z h reg own_SS "kept" own_dST (.ref rb) ∧ own_Tr Z h k (.ref rb) (La ++ (t, pq, lo, hi) :: Lb) ∧ Lq = La ++ Lb ∧ (∀ x ∈ La, own_kk x.2.1 x.2.2.1 pq lo) ∧ (∀ x ∈ Lb, own_kk pq lo x.2.1 x.2.2.1)
theorem own_w0 {Z : State} {a0 : Array Value} (hw : ∀ d ∈ tables_1, d.before a0 Z = true) : Jvm.Cond.before (Jvm.Cond.methodLink x.cls (7 : Nat) ({ cls := x.cls, name := "shift", desc := "(JJ)J" } : Jvm.MethodName)) a0 Z = true := hw _ (List.mem_of_getElem? (i := 0) rfl)
theorem own_w1 {Z : State} {a0 : Array Value} (hw : ∀ d ∈ tables_1, d.before a0 Z = true) : Jvm.Cond.before (Jvm.Cond.static ({ cls := x.cls, name := "shift", desc := "(JJ)J" } : Jvm.MethodName)) a0 Z = true := hw _ (List.mem_of_getElem? (i := 1) rfl)
theorem own_w2 {Z : State} {a0 : Array Value} (hw : ∀ d ∈ tables_1, d.before a0 Z = true) : Jvm.Cond.before (Jvm.Cond.initialized x.cls) a0 Z = true := hw _ (List.mem_of_getElem? (i := 2) rfl)
theorem own_w3 {Z : State} {a0 : Array Value} (hw : ∀ d ∈ tables_1, d.before a0 Z = true) : Jvm.Cond.before (Jvm.Cond.code ({ cls := x.cls, name := "shift", desc := "(JJ)J" } : Jvm.MethodName) method_3_code (4 : Nat) (Option.some Jvm.ClassFile.FieldType.long)) a0 Z = true := hw _ (List.mem_of_getElem? (i := 3) rfl)
theorem own_w4 {Z : State} {a0 : Array Value} (hw : ∀ d ∈ tables_1, d.before a0 Z = true) : Jvm.Cond.before (Jvm.Cond.constantLong x.cls (44 : Nat) (9223372036854775807 : Int64)) a0 Z = true := hw _ (List.mem_of_getElem? (i := 4) rfl)
theorem own_w5 {Z : State} {a0 : Array Value} (hw : ∀ d ∈ tables_1, d.before a0 Z = true) : Jvm.Cond.before (Jvm.Cond.constant x.cls (13 : Nat) (32768 : Int32)) a0 Z = true := hw _ (List.mem_of_getElem? (i := 5) rfl)
theorem own_w6 {Z : State} {a0 : Array Value} (hw : ∀ d ∈ tables_1, d.before a0 Z = true) : Jvm.Cond.before (Jvm.Cond.constantLong x.cls (14 : Nat) (3 : Int64)) a0 Z = true := hw _ (List.mem_of_getElem? (i := 6) rfl)
theorem own_w7 {Z : State} {a0 : Array Value} (hw : ∀ d ∈ tables_1, d.before a0 Z = true) : Jvm.Cond.before (Jvm.Cond.constant x.cls (16 : Nat) (65536 : Int32)) a0 Z = true := hw _ (List.mem_of_getElem? (i := 7) rfl)
theorem own_w8 {Z : State} {a0 : Array Value} (hw : ∀ d ∈ tables_1, d.before a0 Z = true) : Jvm.Cond.before (Jvm.Cond.methodLink x.cls (17 : Nat) ({ cls := x.cls, name := "clash", desc := "(IJJIJJ)Z" } : Jvm.MethodName)) a0 Z = true := hw _ (List.mem_of_getElem? (i := 8) rfl)
theorem own_w9 {Z : State} {a0 : Array Value} (hw : ∀ d ∈ tables_1, d.before a0 Z = true) : Jvm.Cond.before (Jvm.Cond.static ({ cls := x.cls, name := "clash", desc := "(IJJIJJ)Z" } : Jvm.MethodName)) a0 Z = true := hw _ (List.mem_of_getElem? (i := 9) rfl)
theorem own_w10 {Z : State} {a0 : Array Value} (hw : ∀ d ∈ tables_1, d.before a0 Z = true) : Jvm.Cond.before (Jvm.Cond.code ({ cls := x.cls, name := "clash", desc := "(IJJIJJ)Z" } : Jvm.MethodName) method_4_code (10 : Nat) (Option.some Jvm.ClassFile.FieldType.boolean)) a0 Z = true := hw _ (List.mem_of_getElem? (i := 10) rfl)
theorem own_w11 {Z : State} {a0 : Array Value} (hw : ∀ d ∈ tables_1, d.before a0 Z = true) : Jvm.Cond.before (Jvm.Cond.constantLong x.cls (46 : Nat) (-9223372036854775808 : Int64)) a0 Z = true := hw _ (List.mem_of_getElem? (i := 11) rfl)
theorem own_w12 {Z : State} {a0 : Array Value} (hw : ∀ d ∈ tables_1, d.before a0 Z = true) : Jvm.Cond.before (Jvm.Cond.arrayClass Jvm.ClassFile.FieldType.int) a0 Z = true := hw _ (List.mem_of_getElem? (i := 12) rfl)
theorem own_w13 {Z : State} {a0 : Array Value} (hw : ∀ d ∈ tables_1, d.before a0 Z = true) : Jvm.Cond.before (Jvm.Cond.classLink x.cls (21 : Nat) own_SS) a0 Z = true := hw _ (List.mem_of_getElem? (i := 13) rfl)
theorem own_w14 {Z : State} {a0 : Array Value} (hw : ∀ d ∈ tables_1, d.before a0 Z = true) : Jvm.Cond.before (Jvm.Cond.instantiable own_SS (7 : Nat)) a0 Z = true := hw _ (List.mem_of_getElem? (i := 14) rfl)
theorem own_w15 {Z : State} {a0 : Array Value} (hw : ∀ d ∈ tables_1, d.before a0 Z = true) : Jvm.Cond.before (Jvm.Cond.initialized own_SS) a0 Z = true := hw _ (List.mem_of_getElem? (i := 15) rfl)
theorem own_w16 {Z : State} {a0 : Array Value} (hw : ∀ d ∈ tables_1, d.before a0 Z = true) : Jvm.Cond.before (Jvm.Cond.methodLink x.cls (23 : Nat) ({ cls := own_SS, name := "<init>", desc := "(I)V" } : Jvm.MethodName)) a0 Z = true := hw _ (List.mem_of_getElem? (i := 16) rfl)
theorem own_w17 {Z : State} {a0 : Array Value} (hw : ∀ d ∈ tables_1, d.before a0 Z = true) : Jvm.Cond.before (Jvm.Cond.instanceMethod ({ cls := own_SS, name := "<init>", desc := "(I)V" } : Jvm.MethodName)) a0 Z = true := hw _ (List.mem_of_getElem? (i := 17) rfl)
theorem own_w18 {Z : State} {a0 : Array Value} (hw : ∀ d ∈ tables_1, d.before a0 Z = true) : Jvm.Cond.before (Jvm.Cond.code ({ cls := own_SS, name := "<init>", desc := "(I)V" } : Jvm.MethodName) prog_150_method_1_code (2 : Nat) (Option.none : Option Jvm.ClassFile.FieldType)) a0 Z = true := hw _ (List.mem_of_getElem? (i := 18) rfl)
theorem own_w19 {Z : State} {a0 : Array Value} (hw : ∀ d ∈ tables_1, d.before a0 Z = true) : Jvm.Cond.before (Jvm.Cond.methodLink own_SS (1 : Nat) ({ cls := "java/lang/Object", name := "<init>", desc := "()V" } : Jvm.MethodName)) a0 Z = true := hw _ (List.mem_of_getElem? (i := 19) rfl)
theorem own_w20 {Z : State} {a0 : Array Value} (hw : ∀ d ∈ tables_1, d.before a0 Z = true) : Jvm.Cond.before (Jvm.Cond.instanceMethod ({ cls := "java/lang/Object", name := "<init>", desc := "()V" } : Jvm.MethodName)) a0 Z = true := hw _ (List.mem_of_getElem? (i := 20) rfl)
theorem own_w21 {Z : State} {a0 : Array Value} (hw : ∀ d ∈ tables_1, d.before a0 Z = true) : Jvm.Cond.before (Jvm.Cond.code ({ cls := "java/lang/Object", name := "<init>", desc := "()V" } : Jvm.MethodName) object_method_1_code (1 : Nat) (Option.none : Option Jvm.ClassFile.FieldType)) a0 Z = true := hw _ (List.mem_of_getElem? (i := 21) rfl)
theorem own_w22 {Z : State} {a0 : Array Value} (hw : ∀ d ∈ tables_1, d.before a0 Z = true) : Jvm.Cond.before (Jvm.Cond.classLink own_SS (7 : Nat) "java/util/HashMap") a0 Z = true := hw _ (List.mem_of_getElem? (i := 22) rfl)
theorem own_w23 {Z : State} {a0 : Array Value} (hw : ∀ d ∈ tables_1, d.before a0 Z = true) : Jvm.Cond.before (Jvm.Cond.instantiable "java/util/HashMap" (8 : Nat)) a0 Z = true := hw _ (List.mem_of_getElem? (i := 23) rfl)
theorem own_w24 {Z : State} {a0 : Array Value} (hw : ∀ d ∈ tables_1, d.before a0 Z = true) : Jvm.Cond.before (Jvm.Cond.initialized "java/util/HashMap") a0 Z = true := hw _ (List.mem_of_getElem? (i := 24) rfl)
theorem own_w25 {Z : State} {a0 : Array Value} (hw : ∀ d ∈ tables_1, d.before a0 Z = true) : Jvm.Cond.before (Jvm.Cond.methodLink own_SS (9 : Nat) ({ cls := "java/util/HashMap", name := "<init>", desc := "()V" } : Jvm.MethodName)) a0 Z = true := hw _ (List.mem_of_getElem? (i := 25) rfl)
theorem own_w26 {Z : State} {a0 : Array Value} (hw : ∀ d ∈ tables_1, d.before a0 Z = true) : Jvm.Cond.before (Jvm.Cond.instanceMethod ({ cls := "java/util/HashMap", name := "<init>", desc := "()V" } : Jvm.MethodName)) a0 Z = true := hw _ (List.mem_of_getElem? (i := 26) rfl)
theorem own_w27 {Z : State} {a0 : Array Value} (hw : ∀ d ∈ tables_1, d.before a0 Z = true) : Jvm.Cond.before (Jvm.Cond.code ({ cls := "java/util/HashMap", name := "<init>", desc := "()V" } : Jvm.MethodName) jdk_69_method_7_code (1 : Nat) (Option.none : Option Jvm.ClassFile.FieldType)) a0 Z = true := hw _ (List.mem_of_getElem? (i := 27) rfl)
theorem own_w28 {Z : State} {a0 : Array Value} (hw : ∀ d ∈ tables_1, d.before a0 Z = true) : Jvm.Cond.before (Jvm.Cond.methodLink "java/util/HashMap" (43 : Nat) ({ cls := "java/util/AbstractMap", name := "<init>", desc := "()V" } : Jvm.MethodName)) a0 Z = true := hw _ (List.mem_of_getElem? (i := 28) rfl)
theorem own_w29 {Z : State} {a0 : Array Value} (hw : ∀ d ∈ tables_1, d.before a0 Z = true) : Jvm.Cond.before (Jvm.Cond.instanceMethod ({ cls := "java/util/AbstractMap", name := "<init>", desc := "()V" } : Jvm.MethodName)) a0 Z = true := hw _ (List.mem_of_getElem? (i := 29) rfl)
theorem own_w32 {Z : State} {a0 : Array Value} (hw : ∀ d ∈ tables_1, d.before a0 Z = true) : Jvm.Cond.before (Jvm.Cond.initialized "java/util/AbstractMap") a0 Z = true := hw _ (List.mem_of_getElem? (i := 32) rfl)
theorem own_w33 {Z : State} {a0 : Array Value} (hw : ∀ d ∈ tables_1, d.before a0 Z = true) : Jvm.Cond.before (Jvm.Cond.code ({ cls := "java/util/AbstractMap", name := "<init>", desc := "()V" } : Jvm.MethodName) jdk_71_method_1_code (1 : Nat) (Option.none : Option Jvm.ClassFile.FieldType)) a0 Z = true := hw _ (List.mem_of_getElem? (i := 33) rfl)
theorem own_w34 {Z : State} {a0 : Array Value} (hw : ∀ d ∈ tables_1, d.before a0 Z = true) : Jvm.Cond.before (Jvm.Cond.methodLink "java/util/AbstractMap" (1 : Nat) ({ cls := "java/lang/Object", name := "<init>", desc := "()V" } : Jvm.MethodName)) a0 Z = true := hw _ (List.mem_of_getElem? (i := 34) rfl)
theorem own_w35 {Z : State} {a0 : Array Value} (hw : ∀ d ∈ tables_1, d.before a0 Z = true) : Jvm.Cond.before (Jvm.Cond.constantFloat "java/util/HashMap" (92 : Nat) (1061158912 : UInt32)) a0 Z = true := hw _ (List.mem_of_getElem? (i := 35) rfl)
theorem own_w36 {Z : State} {a0 : Array Value} (hw : ∀ d ∈ tables_1, d.before a0 Z = true) : Jvm.Cond.before (Jvm.Cond.fieldLink "java/util/HashMap" (81 : Nat) "java/util/HashMap" "loadFactor" "F") a0 Z = true := hw _ (List.mem_of_getElem? (i := 36) rfl)
theorem own_w37 {Z : State} {a0 : Array Value} (hw : ∀ d ∈ tables_1, d.before a0 Z = true) : Jvm.Cond.before (Jvm.Cond.laysFinal "java/util/HashMap" "java/util/HashMap" "loadFactor" "F") a0 Z = true := hw _ (List.mem_of_getElem? (i := 37) rfl)
theorem own_w38 {Z : State} {a0 : Array Value} (hw : ∀ d ∈ tables_1, d.before a0 Z = true) : Jvm.Cond.before (Jvm.Cond.fieldLink own_SS (10 : Nat) own_SS "setsByTakes" "Ljava/util/Map;") a0 Z = true := hw _ (List.mem_of_getElem? (i := 38) rfl)
theorem own_w39 {Z : State} {a0 : Array Value} (hw : ∀ d ∈ tables_1, d.before a0 Z = true) : Jvm.Cond.before (Jvm.Cond.laysFinal own_SS own_SS "setsByTakes" "Ljava/util/Map;") a0 Z = true := hw _ (List.mem_of_getElem? (i := 39) rfl)
theorem own_w40 {Z : State} {a0 : Array Value} (hw : ∀ d ∈ tables_1, d.before a0 Z = true) : Jvm.Cond.before (Jvm.Cond.fieldLink own_SS (16 : Nat) own_SS "setsBySize" "Ljava/util/Map;") a0 Z = true := hw _ (List.mem_of_getElem? (i := 40) rfl)
theorem own_w41 {Z : State} {a0 : Array Value} (hw : ∀ d ∈ tables_1, d.before a0 Z = true) : Jvm.Cond.before (Jvm.Cond.laysFinal own_SS own_SS "setsBySize" "Ljava/util/Map;") a0 Z = true := hw _ (List.mem_of_getElem? (i := 41) rfl)
theorem own_w42 {Z : State} {a0 : Array Value} (hw : ∀ d ∈ tables_1, d.before a0 Z = true) : Jvm.Cond.before (Jvm.Cond.fieldLink own_SS (19 : Nat) own_SS "firsts" "[I") a0 Z = true := hw _ (List.mem_of_getElem? (i := 42) rfl)
theorem own_w43 {Z : State} {a0 : Array Value} (hw : ∀ d ∈ tables_1, d.before a0 Z = true) : Jvm.Cond.before (Jvm.Cond.lays own_SS own_SS "firsts" "[I") a0 Z = true := hw _ (List.mem_of_getElem? (i := 43) rfl)
theorem own_w44 {Z : State} {a0 : Array Value} (hw : ∀ d ∈ tables_1, d.before a0 Z = true) : Jvm.Cond.before (Jvm.Cond.classLink own_SS (23 : Nat) own_RUN) a0 Z = true := hw _ (List.mem_of_getElem? (i := 44) rfl)
theorem own_w45 {Z : State} {a0 : Array Value} (hw : ∀ d ∈ tables_1, d.before a0 Z = true) : Jvm.Cond.before (Jvm.Cond.arrayOver (Jvm.ClassFile.FieldType.object own_RUN)) a0 Z = true := hw _ (List.mem_of_getElem? (i := 45) rfl)
theorem own_w46 {Z : State} {a0 : Array Value} (hw : ∀ d ∈ tables_1, d.before a0 Z = true) : Jvm.Cond.before (Jvm.Cond.fieldLink own_SS (25 : Nat) own_SS "startingAt" own_aRUN) a0 Z = true := hw _ (List.mem_of_getElem? (i := 46) rfl)
theorem own_w47 {Z : State} {a0 : Array Value} (hw : ∀ d ∈ tables_1, d.before a0 Z = true) : Jvm.Cond.before (Jvm.Cond.laysFinal own_SS own_SS "startingAt" own_aRUN) a0 Z = true := hw _ (List.mem_of_getElem? (i := 47) rfl)
theorem own_w48 {Z : State} {a0 : Array Value} (hw : ∀ d ∈ tables_1, d.before a0 Z = true) : Jvm.Cond.before (Jvm.Cond.classLink own_SS (29 : Nat) own_RT) a0 Z = true := hw _ (List.mem_of_getElem? (i := 48) rfl)
theorem own_w49 {Z : State} {a0 : Array Value} (hw : ∀ d ∈ tables_1, d.before a0 Z = true) : Jvm.Cond.before (Jvm.Cond.instantiable own_RT (2 : Nat)) a0 Z = true := hw _ (List.mem_of_getElem? (i := 49) rfl)
theorem own_w50 {Z : State} {a0 : Array Value} (hw : ∀ d ∈ tables_1, d.before a0 Z = true) : Jvm.Cond.before (Jvm.Cond.initialized own_RT) a0 Z = true := hw _ (List.mem_of_getElem? (i := 50) rfl)
theorem own_w51 {Z : State} {a0 : Array Value} (hw : ∀ d ∈ tables_1, d.before a0 Z = true) : Jvm.Cond.before (Jvm.Cond.methodLink own_SS (31 : Nat) ({ cls := own_RT, name := "<init>", desc := "(I)V" } : Jvm.MethodName)) a0 Z = true := hw _ (List.mem_of_getElem? (i := 51) rfl)
theorem own_w52 {Z : State} {a0 : Array Value} (hw : ∀ d ∈ tables_1, d.before a0 Z = true) : Jvm.Cond.before (Jvm.Cond.instanceMethod ({ cls := own_RT, name := "<init>", desc := "(I)V" } : Jvm.MethodName)) a0 Z = true := hw _ (List.mem_of_getElem? (i := 52) rfl)
theorem own_w53 {Z : State} {a0 : Array Value} (hw : ∀ d ∈ tables_1, d.before a0 Z = true) : Jvm.Cond.before (Jvm.Cond.code ({ cls := own_RT, name := "<init>", desc := "(I)V" } : Jvm.MethodName) prog_131_method_1_code (3 : Nat) (Option.none : Option Jvm.ClassFile.FieldType)) a0 Z = true := hw _ (List.mem_of_getElem? (i := 53) rfl)
theorem own_w54 {Z : State} {a0 : Array Value} (hw : ∀ d ∈ tables_1, d.before a0 Z = true) : Jvm.Cond.before (Jvm.Cond.methodLink own_RT (1 : Nat) ({ cls := "java/lang/Object", name := "<init>", desc := "()V" } : Jvm.MethodName)) a0 Z = true := hw _ (List.mem_of_getElem? (i := 54) rfl)
theorem own_w55 {Z : State} {a0 : Array Value} (hw : ∀ d ∈ tables_1, d.before a0 Z = true) : Jvm.Cond.before (Jvm.Cond.fieldLink own_RT (7 : Nat) own_RT "leaves" "I") a0 Z = true := hw _ (List.mem_of_getElem? (i := 55) rfl)
theorem own_w56 {Z : State} {a0 : Array Value} (hw : ∀ d ∈ tables_1, d.before a0 Z = true) : Jvm.Cond.before (Jvm.Cond.laysFinal own_RT own_RT "leaves" "I") a0 Z = true := hw _ (List.mem_of_getElem? (i := 56) rfl)
theorem own_w57 {Z : State} {a0 : Array Value} (hw : ∀ d ∈ tables_1, d.before a0 Z = true) : Jvm.Cond.before (Jvm.Cond.fieldLink own_RT (13 : Nat) own_RT "reach" "[I") a0 Z = true := hw _ (List.mem_of_getElem? (i := 57) rfl)
theorem own_w58 {Z : State} {a0 : Array Value} (hw : ∀ d ∈ tables_1, d.before a0 Z = true) : Jvm.Cond.before (Jvm.Cond.laysFinal own_RT own_RT "reach" "[I") a0 Z = true := hw _ (List.mem_of_getElem? (i := 58) rfl)
theorem own_w59 {Z : State} {a0 : Array Value} (hw : ∀ d ∈ tables_1, d.before a0 Z = true) : Jvm.Cond.before (Jvm.Cond.methodLink own_RT (17 : Nat) ({ cls := "java/util/Arrays", name := "fill", desc := "([II)V" } : Jvm.MethodName)) a0 Z = true := hw _ (List.mem_of_getElem? (i := 59) rfl)
theorem own_w60 {Z : State} {a0 : Array Value} (hw : ∀ d ∈ tables_1, d.before a0 Z = true) : Jvm.Cond.before (Jvm.Cond.static ({ cls := "java/util/Arrays", name := "fill", desc := "([II)V" } : Jvm.MethodName)) a0 Z = true := hw _ (List.mem_of_getElem? (i := 60) rfl)
theorem own_w61 {Z : State} {a0 : Array Value} (hw : ∀ d ∈ tables_1, d.before a0 Z = true) : Jvm.Cond.before (Jvm.Cond.initialized "java/util/Arrays") a0 Z = true := hw _ (List.mem_of_getElem? (i := 61) rfl)
theorem own_w62 {Z : State} {a0 : Array Value} (hw : ∀ d ∈ tables_1, d.before a0 Z = true) : Jvm.Cond.before (Jvm.Cond.code ({ cls := "java/util/Arrays", name := "fill", desc := "([II)V" } : Jvm.MethodName) jdk_65_method_103_code (4 : Nat) (Option.none : Option Jvm.ClassFile.FieldType)) a0 Z = true := hw _ (List.mem_of_getElem? (i := 62) rfl)
theorem own_w63 {Z : State} {a0 : Array Value} (hw : ∀ d ∈ tables_1, d.before a0 Z = true) : Jvm.Cond.before (Jvm.Cond.fieldLink own_SS (34 : Nat) own_SS "reach" own_dRT) a0 Z = true := hw _ (List.mem_of_getElem? (i := 63) rfl)
theorem own_w64 {Z : State} {a0 : Array Value} (hw : ∀ d ∈ tables_1, d.before a0 Z = true) : Jvm.Cond.before (Jvm.Cond.laysFinal own_SS own_SS "reach" own_dRT) a0 Z = true := hw _ (List.mem_of_getElem? (i := 64) rfl)
theorem own_w65 {Z : State} {a0 : Array Value} (hw : ∀ d ∈ tables_1, d.before a0 Z = true) : Jvm.Cond.before (Jvm.Cond.methodLink x.cls (26 : Nat) ({ cls := own_SS, name := "alone", desc := "()Lcom/example/tierfold/tierfold/tiered/TailSet;" } : Jvm.MethodName)) a0 Z = true := hw _ (List.mem_of_getElem? (i := 65) rfl)
theorem own_w66 {Z : State} {a0 : Array Value} (hw : ∀ d ∈ tables_1, d.before a0 Z = true) : Jvm.Cond.before (Jvm.Cond.declares ({ cls := own_SS, name := "alone", desc := "()Lcom/example/tierfold/tierfold/tiered/TailSet;" } : Jvm.MethodName)) a0 Z = true := hw _ (List.mem_of_getElem? (i := 66) rfl)
theorem own_w67 {Z : State} {a0 : Array Value} (hw : ∀ d ∈ tables_1, d.before a0 Z = true) : Jvm.Cond.before (Jvm.Cond.instanceMethod ({ cls := own_SS, name := "alone", desc := "()Lcom/example/tierfold/tierfold/tiered/TailSet;" } : Jvm.MethodName)) a0 Z = true := hw _ (List.mem_of_getElem? (i := 67) rfl)
theorem own_w68 {Z : State} {a0 : Array Value} (hw : ∀ d ∈ tables_1, d.before a0 Z = true) : Jvm.Cond.before (Jvm.Cond.selects own_SS ({ cls := own_SS, name := "alone", desc := "()Lcom/example/tierfold/tierfold/tiered/TailSet;" } : Jvm.MethodName) ({ cls := own_SS, name := "alone", desc := "()Lcom/example/tierfold/tierfold/tiered/TailSet;" } : Jvm.MethodName)) a0 Z = true := hw _ (List.mem_of_getElem? (i := 68) rfl)
theorem own_w69 {Z : State} {a0 : Array Value} (hw : ∀ d ∈ tables_1, d.before a0 Z = true) : Jvm.Cond.before (Jvm.Cond.code ({ cls := own_SS, name := "alone", desc := "()Lcom/example/tierfold/tierfold/tiered/TailSet;" } : Jvm.MethodName) prog_150_method_4_code (1 : Nat) (Option.some (Jvm.ClassFile.FieldType.object own_TS))) a0 Z = true := hw _ (List.mem_of_getElem? (i := 69) rfl)
theorem own_w70 {Z : State} {a0 : Array Value} (hw : ∀ d ∈ tables_1, d.before a0 Z = true) : Jvm.Cond.before (Jvm.Cond.classLink own_SS (103 : Nat) own_TS) a0 Z = true := hw _ (List.mem_of_getElem? (i := 70) rfl)
theorem own_w71 {Z : State} {a0 : Array Value} (hw : ∀ d ∈ tables_1, d.before a0 Z = true) : Jvm.Cond.before (Jvm.Cond.instantiable own_TS (7 : Nat)) a0 Z = true := hw _ (List.mem_of_getElem? (i := 71) rfl)
theorem own_w72 {Z : State} {a0 : Array Value} (hw : ∀ d ∈ tables_1, d.before a0 Z = true) : Jvm.Cond.before (Jvm.Cond.initialized own_TS) a0 Z = true := hw _ (List.mem_of_getElem? (i := 72) rfl)
theorem own_w73 {Z : State} {a0 : Array Value} (hw : ∀ d ∈ tables_1, d.before a0 Z = true) : Jvm.Cond.before (Jvm.Cond.fieldLink own_SS (105 : Nat) own_SS "NO_SIZES" "[J") a0 Z = true := hw _ (List.mem_of_getElem? (i := 73) rfl)
theorem own_w74 {Z : State} {a0 : Array Value} (hw : ∀ d ∈ tables_1, d.before a0 Z = true) : Jvm.Cond.before (Jvm.Cond.laysStatic own_SS "NO_SIZES" "[J") a0 Z = true := hw _ (List.mem_of_getElem? (i := 74) rfl)
theorem own_w75 {Z : State} {a0 : Array Value} (hw : ∀ d ∈ tables_1, d.before a0 Z = true) : Jvm.Cond.before (Jvm.Cond.fieldLink own_SS (109 : Nat) own_SS "NO_COUNTS" "[I") a0 Z = true := hw _ (List.mem_of_getElem? (i := 75) rfl)
theorem own_w76 {Z : State} {a0 : Array Value} (hw : ∀ d ∈ tables_1, d.before a0 Z = true) : Jvm.Cond.before (Jvm.Cond.laysStatic own_SS "NO_COUNTS" "[I") a0 Z = true := hw _ (List.mem_of_getElem? (i := 76) rfl)
theorem own_w77 {Z : State} {a0 : Array Value} (hw : ∀ d ∈ tables_1, d.before a0 Z = true) : Jvm.Cond.before (Jvm.Cond.methodLink own_SS (112 : Nat) ({ cls := own_TS, name := "<init>", desc := "([J[IJJ)V" } : Jvm.MethodName)) a0 Z = true := hw _ (List.mem_of_getElem? (i := 77) rfl)
theorem own_w78 {Z : State} {a0 : Array Value} (hw : ∀ d ∈ tables_1, d.before a0 Z = true) : Jvm.Cond.before (Jvm.Cond.instanceMethod ({ cls := own_TS, name := "<init>", desc := "([J[IJJ)V" } : Jvm.MethodName)) a0 Z = true := hw _ (List.mem_of_getElem? (i := 78) rfl)
theorem own_w79 {Z : State} {a0 : Array Value} (hw : ∀ d ∈ tables_1, d.before a0 Z = true) : Jvm.Cond.before (Jvm.Cond.code ({ cls := own_TS, name := "<init>", desc := "([J[IJJ)V" } : Jvm.MethodName) prog_157_method_1_code (7 : Nat) (Option.none : Option Jvm.ClassFile.FieldType)) a0 Z = true := hw _ (List.mem_of_getElem? (i := 79) rfl)
theorem own_w80 {Z : State} {a0 : Array Value} (hw : ∀ d ∈ tables_1, d.before a0 Z = true) : Jvm.Cond.before (Jvm.Cond.methodLink own_TS (1 : Nat) ({ cls := "java/lang/Object", name := "<init>", desc := "()V" } : Jvm.MethodName)) a0 Z = true := hw _ (List.mem_of_getElem? (i := 80) rfl)
theorem own_w81 {Z : State} {a0 : Array Value} (hw : ∀ d ∈ tables_1, d.before a0 Z = true) : Jvm.Cond.before (Jvm.Cond.fieldLink own_TS (7 : Nat) own_TS "kept" "Z") a0 Z = true := hw _ (List.mem_of_getElem? (i := 81) rfl)
theorem own_w82 {Z : State} {a0 : Array Value} (hw : ∀ d ∈ tables_1, d.before a0 Z = true) : Jvm.Cond.before (Jvm.Cond.lays own_TS own_TS "kept" "Z") a0 Z = true := hw _ (List.mem_of_getElem? (i := 82) rfl)
theorem own_w83 {Z : State} {a0 : Array Value} (hw : ∀ d ∈ tables_1, d.before a0 Z = true) : Jvm.Cond.before (Jvm.Cond.fieldLink own_TS (13 : Nat) own_TS "queuedUnder" "I") a0 Z = true := hw _ (List.mem_of_getElem? (i := 83) rfl)
theorem own_w84 {Z : State} {a0 : Array Value} (hw : ∀ d ∈ tables_1, d.before a0 Z = true) : Jvm.Cond.before (Jvm.Cond.lays own_TS own_TS "queuedUnder" "I") a0 Z = true := hw _ (List.mem_of_getElem? (i := 84) rfl)
theorem own_w85 {Z : State} {a0 : Array Value} (hw : ∀ d ∈ tables_1, d.before a0 Z = true) : Jvm.Cond.before (Jvm.Cond.fieldLink own_TS (17 : Nat) own_TS "takenSizes" "[J") a0 Z = true := hw _ (List.mem_of_getElem? (i := 85) rfl)
theorem own_w86 {Z : State} {a0 : Array Value} (hw : ∀ d ∈ tables_1, d.before a0 Z = true) : Jvm.Cond.before (Jvm.Cond.laysFinal own_TS own_TS "takenSizes" "[J") a0 Z = true := hw _ (List.mem_of_getElem? (i := 86) rfl)
theorem own_w87 {Z : State} {a0 : Array Value} (hw : ∀ d ∈ tables_1, d.before a0 Z = true) : Jvm.Cond.before (Jvm.Cond.fieldLink own_TS (21 : Nat) own_TS "takenCounts" "[I") a0 Z = true := hw _ (List.mem_of_getElem? (i := 87) rfl)
theorem own_w88 {Z : State} {a0 : Array Value} (hw : ∀ d ∈ tables_1, d.before a0 Z = true) : Jvm.Cond.before (Jvm.Cond.laysFinal own_TS own_TS "takenCounts" "[I") a0 Z = true := hw _ (List.mem_of_getElem? (i := 88) rfl)
theorem own_w89 {Z : State} {a0 : Array Value} (hw : ∀ d ∈ tables_1, d.before a0 Z = true) : Jvm.Cond.before (Jvm.Cond.fieldLink own_TS (25 : Nat) own_TS "total" "J") a0 Z = true := hw _ (List.mem_of_getElem? (i := 89) rfl)
theorem own_w90 {Z : State} {a0 : Array Value} (hw : ∀ d ∈ tables_1, d.before a0 Z = true) : Jvm.Cond.before (Jvm.Cond.laysFinal own_TS own_TS "total" "J") a0 Z = true := hw _ (List.mem_of_getElem? (i := 90) rfl)
theorem own_w91 {Z : State} {a0 : Array Value} (hw : ∀ d ∈ tables_1, d.before a0 Z = true) : Jvm.Cond.before (Jvm.Cond.fieldLink own_TS (29 : Nat) own_TS "bytes" "J") a0 Z = true := hw _ (List.mem_of_getElem? (i := 91) rfl)
theorem own_w92 {Z : State} {a0 : Array Value} (hw : ∀ d ∈ tables_1, d.before a0 Z = true) : Jvm.Cond.before (Jvm.Cond.lays own_TS own_TS "bytes" "J") a0 Z = true := hw _ (List.mem_of_getElem? (i := 92) rfl)
theorem own_w93 {Z : State} {a0 : Array Value} (hw : ∀ d ∈ tables_1, d.before a0 Z = true) : Jvm.Cond.before (Jvm.Cond.methodLink x.cls (30 : Nat) ({ cls := own_SS, name := "add", desc := "(I[IJJJJLcom/example/tierfold/tierfold/tiered/TailSet;)Lcom/example/tierfold/tierfold/tiered/SharedTail;" } : Jvm.MethodName)) a0 Z = true := hw _ (List.mem_of_getElem? (i := 93) rfl)
theorem own_w94 {Z : State} {a0 : Array Value} (hw : ∀ d ∈ tables_1, d.before a0 Z = true) : Jvm.Cond.before (Jvm.Cond.declares ({ cls := own_SS, name := "add", desc := "(I[IJJJJLcom/example/tierfold/tierfold/tiered/TailSet;)Lcom/example/tierfold/tierfold/tiered/SharedTail;" } : Jvm.MethodName)) a0 Z = true := hw _ (List.mem_of_getElem? (i := 94) rfl)
theorem own_w95 {Z : State} {a0 : Array Value} (hw : ∀ d ∈ tables_1, d.before a0 Z = true) : Jvm.Cond.before (Jvm.Cond.instanceMethod ({ cls := own_SS, name := "add", desc := "(I[IJJJJLcom/example/tierfold/tierfold/tiered/TailSet;)Lcom/example/tierfold/tierfold/tiered/SharedTail;" } : Jvm.MethodName)) a0 Z = true := hw _ (List.mem_of_getElem? (i := 95) rfl)
theorem own_w96 {Z : State} {a0 : Array Value} (hw : ∀ d ∈ tables_1, d.before a0 Z = true) : Jvm.Cond.before (Jvm.Cond.selects own_SS ({ cls := own_SS, name := "add", desc := "(I[IJJJJLcom/example/tierfold/tierfold/tiered/TailSet;)Lcom/example/tierfold/tierfold/tiered/SharedTail;" } : Jvm.MethodName) ({ cls := own_SS, name := "add", desc := "(I[IJJJJLcom/example/tierfold/tierfold/tiered/TailSet;)Lcom/example/tierfold/tierfold/tiered/SharedTail;" } : Jvm.MethodName)) a0 Z = true := hw _ (List.mem_of_getElem? (i := 96) rfl)
theorem own_w97 {Z : State} {a0 : Array Value} (hw : ∀ d ∈ tables_1, d.before a0 Z = true) : Jvm.Cond.before (Jvm.Cond.code ({ cls := own_SS, name := "add", desc := "(I[IJJJJLcom/example/tierfold/tierfold/tiered/TailSet;)Lcom/example/tierfold/tierfold/tiered/SharedTail;" } : Jvm.MethodName) prog_150_method_3_code (14 : Nat) (Option.some (Jvm.ClassFile.FieldType.object own_ST))) a0 Z = true := hw _ (List.mem_of_getElem? (i := 97) rfl)
theorem own_w98 {Z : State} {a0 : Array Value} (hw : ∀ d ∈ tables_1, d.before a0 Z = true) : Jvm.Cond.before (Jvm.Cond.classLink own_SS (43 : Nat) own_ST) a0 Z = true := hw _ (List.mem_of_getElem? (i := 98) rfl)
theorem own_w99 {Z : State} {a0 : Array Value} (hw : ∀ d ∈ tables_1, d.before a0 Z = true) : Jvm.Cond.before (Jvm.Cond.instantiable own_ST (21 : Nat)) a0 Z = true := hw _ (List.mem_of_getElem? (i := 99) rfl)
theorem own_w100 {Z : State} {a0 : Array Value} (hw : ∀ d ∈ tables_1, d.before a0 Z = true) : Jvm.Cond.before (Jvm.Cond.initialized own_ST) a0 Z = true := hw _ (List.mem_of_getElem? (i := 100) rfl)
theorem own_w101 {Z : State} {a0 : Array Value} (hw : ∀ d ∈ tables_1, d.before a0 Z = true) : Jvm.Cond.before (Jvm.Cond.methodLink own_SS (61 : Nat) ({ cls := own_ST, name := "<init>", desc := "(I[IJJJJLcom/example/tierfold/tierfold/tiered/TailSet;)V" } : Jvm.MethodName)) a0 Z = true := hw _ (List.mem_of_getElem? (i := 101) rfl)
theorem own_w102 {Z : State} {a0 : Array Value} (hw : ∀ d ∈ tables_1, d.before a0 Z = true) : Jvm.Cond.before (Jvm.Cond.instanceMethod ({ cls := own_ST, name := "<init>", desc := "(I[IJJJJLcom/example/tierfold/tierfold/tiered/TailSet;)V" } : Jvm.MethodName)) a0 Z = true := hw _ (List.mem_of_getElem? (i := 102) rfl)
theorem own_w103 {Z : State} {a0 : Array Value} (hw : ∀ d ∈ tables_1, d.before a0 Z = true) : Jvm.Cond.before (Jvm.Cond.code ({ cls := own_ST, name := "<init>", desc := "(I[IJJJJLcom/example/tierfold/tierfold/tiered/TailSet;)V" } : Jvm.MethodName) prog_148_method_2_code (15 : Nat) (Option.none : Option Jvm.ClassFile.FieldType)) a0 Z = true := hw _ (List.mem_of_getElem? (i := 103) rfl)
theorem own_w104 {Z : State} {a0 : Array Value} (hw : ∀ d ∈ tables_1, d.before a0 Z = true) : Jvm.Cond.before (Jvm.Cond.methodLink own_ST (16 : Nat) ({ cls := "java/lang/Object", name := "<init>", desc := "()V" } : Jvm.MethodName)) a0 Z = true := hw _ (List.mem_of_getElem? (i := 104) rfl)
theorem own_w105 {Z : State} {a0 : Array Value} (hw : ∀ d ∈ tables_1, d.before a0 Z = true) : Jvm.Cond.before (Jvm.Cond.fieldLink own_ST (24 : Nat) own_ST "windows" "I") a0 Z = true := hw _ (List.mem_of_getElem? (i := 105) rfl)
theorem own_w106 {Z : State} {a0 : Array Value} (hw : ∀ d ∈ tables_1, d.before a0 Z = true) : Jvm.Cond.before (Jvm.Cond.lays own_ST own_ST "windows" "I") a0 Z = true := hw _ (List.mem_of_getElem? (i := 106) rfl)
theorem own_w107 {Z : State} {a0 : Array Value} (hw : ∀ d ∈ tables_1, d.before a0 Z = true) : Jvm.Cond.before (Jvm.Cond.fieldLink own_ST (28 : Nat) own_ST "places" "I") a0 Z = true := hw _ (List.mem_of_getElem? (i := 107) rfl)
theorem own_w108 {Z : State} {a0 : Array Value} (hw : ∀ d ∈ tables_1, d.before a0 Z = true) : Jvm.Cond.before (Jvm.Cond.laysFinal own_ST own_ST "places" "I") a0 Z = true := hw _ (List.mem_of_getElem? (i := 108) rfl)
theorem own_w109 {Z : State} {a0 : Array Value} (hw : ∀ d ∈ tables_1, d.before a0 Z = true) : Jvm.Cond.before (Jvm.Cond.fieldLink own_ST (31 : Nat) own_ST "total" "J") a0 Z = true := hw _ (List.mem_of_getElem? (i := 109) rfl)
theorem own_w110 {Z : State} {a0 : Array Value} (hw : ∀ d ∈ tables_1, d.before a0 Z = true) : Jvm.Cond.before (Jvm.Cond.laysFinal own_ST own_ST "total" "J") a0 Z = true := hw _ (List.mem_of_getElem? (i := 110) rfl)
theorem own_w111 {Z : State} {a0 : Array Value} (hw : ∀ d ∈ tables_1, d.before a0 Z = true) : Jvm.Cond.before (Jvm.Cond.fieldLink own_ST (34 : Nat) own_ST "low" "J") a0 Z = true := hw _ (List.mem_of_getElem? (i := 111) rfl)
theorem own_w112 {Z : State} {a0 : Array Value} (hw : ∀ d ∈ tables_1, d.before a0 Z = true) : Jvm.Cond.before (Jvm.Cond.laysFinal own_ST own_ST "low" "J") a0 Z = true := hw _ (List.mem_of_getElem? (i := 112) rfl)
theorem own_w113 {Z : State} {a0 : Array Value} (hw : ∀ d ∈ tables_1, d.before a0 Z = true) : Jvm.Cond.before (Jvm.Cond.fieldLink own_ST (1 : Nat) own_ST "ownBytes" "J") a0 Z = true := hw _ (List.mem_of_getElem? (i := 113) rfl)
theorem own_w114 {Z : State} {a0 : Array Value} (hw : ∀ d ∈ tables_1, d.before a0 Z = true) : Jvm.Cond.before (Jvm.Cond.laysFinal own_ST own_ST "ownBytes" "J") a0 Z = true := hw _ (List.mem_of_getElem? (i := 114) rfl)
theorem own_w115 {Z : State} {a0 : Array Value} (hw : ∀ d ∈ tables_1, d.before a0 Z = true) : Jvm.Cond.before (Jvm.Cond.fieldLink own_ST (37 : Nat) own_ST "high" "J") a0 Z = true := hw _ (List.mem_of_getElem? (i := 115) rfl)
theorem own_w116 {Z : State} {a0 : Array Value} (hw : ∀ d ∈ tables_1, d.before a0 Z = true) : Jvm.Cond.before (Jvm.Cond.lays own_ST own_ST "high" "J") a0 Z = true := hw _ (List.mem_of_getElem? (i := 116) rfl)
theorem own_w117 {Z : State} {a0 : Array Value} (hw : ∀ d ∈ tables_1, d.before a0 Z = true) : Jvm.Cond.before (Jvm.Cond.fieldLink own_ST (7 : Nat) own_ST "set" own_dTS) a0 Z = true := hw _ (List.mem_of_getElem? (i := 117) rfl)
theorem own_w118 {Z : State} {a0 : Array Value} (hw : ∀ d ∈ tables_1, d.before a0 Z = true) : Jvm.Cond.before (Jvm.Cond.laysFinal own_ST own_ST "set" own_dTS) a0 Z = true := hw _ (List.mem_of_getElem? (i := 118) rfl)
theorem own_w119 {Z : State} {a0 : Array Value} (hw : ∀ d ∈ tables_1, d.before a0 Z = true) : Jvm.Cond.before (Jvm.Cond.fieldLink own_ST (49 : Nat) own_ST "firstRun" own_dRUN) a0 Z = true := hw _ (List.mem_of_getElem? (i := 119) rfl)
theorem own_w120 {Z : State} {a0 : Array Value} (hw : ∀ d ∈ tables_1, d.before a0 Z = true) : Jvm.Cond.before (Jvm.Cond.laysFinal own_ST own_ST "firstRun" own_dRUN) a0 Z = true := hw _ (List.mem_of_getElem? (i := 120) rfl)
theorem own_w121 {Z : State} {a0 : Array Value} (hw : ∀ d ∈ tables_1, d.before a0 Z = true) : Jvm.Cond.before (Jvm.Cond.fieldLink own_SS (64 : Nat) own_SS "KEPT" own_dTP) a0 Z = true := hw _ (List.mem_of_getElem? (i := 121) rfl)
theorem own_w122 {Z : State} {a0 : Array Value} (hw : ∀ d ∈ tables_1, d.before a0 Z = true) : Jvm.Cond.before (Jvm.Cond.laysStatic own_SS "KEPT" own_dTP) a0 Z = true := hw _ (List.mem_of_getElem? (i := 122) rfl)
theorem own_w123 {Z : State} {a0 : Array Value} (hw : ∀ d ∈ tables_1, d.before a0 Z = true) : Jvm.Cond.before (Jvm.Cond.fieldLink own_SS (38 : Nat) own_SS "kept" own_dST) a0 Z = true := hw _ (List.mem_of_getElem? (i := 123) rfl)
theorem own_w124 {Z : State} {a0 : Array Value} (hw : ∀ d ∈ tables_1, d.before a0 Z = true) : Jvm.Cond.before (Jvm.Cond.lays own_SS own_SS "kept" own_dST) a0 Z = true := hw _ (List.mem_of_getElem? (i := 124) rfl)
theorem own_w125 {Z : State} {a0 : Array Value} (hw : ∀ d ∈ tables_1, d.before a0 Z = true) : Jvm.Cond.before (Jvm.Cond.methodLink own_SS (68 : Nat) ({ cls := own_TP, name := "insert", desc := "(Lcom/example/tierfold/tierfold/tiered/SharedTail;Lcom/example/tierfold/tierfold/tiered/SharedTail;)Lcom/example/tierfold/tierfold/tiered/SharedTail;" } : Jvm.MethodName)) a0 Z = true := hw _ (List.mem_of_getElem? (i := 125) rfl)
theorem own_w126 {Z : State} {a0 : Array Value} (hw : ∀ d ∈ tables_1, d.before a0 Z = true) : Jvm.Cond.before (Jvm.Cond.declares ({ cls := own_TP, name := "insert", desc := "(Lcom/example/tierfold/tierfold/tiered/SharedTail;Lcom/example/tierfold/tierfold/tiered/SharedTail;)Lcom/example/tierfold/tierfold/tiered/SharedTail;" } : Jvm.MethodName)) a0 Z = true := hw _ (List.mem_of_getElem? (i := 126) rfl)
theorem own_w127 {Z : State} {a0 : Array Value} (hw : ∀ d ∈ tables_1, d.before a0 Z = true) : Jvm.Cond.before (Jvm.Cond.instanceMethod ({ cls := own_TP, name := "insert", desc := "(Lcom/example/tierfold/tierfold/tiered/SharedTail;Lcom/example/tierfold/tierfold/tiered/SharedTail;)Lcom/example/tierfold/tierfold/tiered/SharedTail;" } : Jvm.MethodName)) a0 Z = true := hw _ (List.mem_of_getElem? (i := 127) rfl)
theorem own_w128 {Z : State} {a0 : Array Value} (hw : ∀ d ∈ tables_1, d.before a0 Z = true) : Jvm.Cond.before (Jvm.Cond.selects own_S1 ({ cls := own_TP, name := "insert", desc := "(Lcom/example/tierfold/tierfold/tiered/SharedTail;Lcom/example/tierfold/tierfold/tiered/SharedTail;)Lcom/example/tierfold/tierfold/tiered/SharedTail;" } : Jvm.MethodName) ({ cls := own_TP, name := "insert", desc := "(Lcom/example/tierfold/tierfold/tiered/SharedTail;Lcom/example/tierfold/tierfold/tiered/SharedTail;)Lcom/example/tierfold/tierfold/tiered/SharedTail;" } : Jvm.MethodName)) a0 Z = true := hw _ (List.mem_of_getElem? (i := 128) rfl)
theorem own_w129 {Z : State} {a0 : Array Value} (hw : ∀ d ∈ tables_1, d.before a0 Z = true) : Jvm.Cond.before (Jvm.Cond.initialized own_TP) a0 Z = true := hw _ (List.mem_of_getElem? (i := 129) rfl)
theorem own_w130 {Z : State} {a0 : Array Value} (hw : ∀ d ∈ tables_1, d.before a0 Z = true) : Jvm.Cond.before (Jvm.Cond.code ({ cls := own_TP, name := "insert", desc := "(Lcom/example/tierfold/tierfold/tiered/SharedTail;Lcom/example/tierfold/tierfold/tiered/SharedTail;)Lcom/example/tierfold/tierfold/tiered/SharedTail;" } : Jvm.MethodName) prog_159_method_7_code (4 : Nat) (Option.some (Jvm.ClassFile.FieldType.object own_ST))) a0 Z = true := hw _ (List.mem_of_getElem? (i := 130) rfl)
theorem own_w131 {Z : State} {a0 : Array Value} (hw : ∀ d ∈ tables_1, d.before a0 Z = true) : Jvm.Cond.before (Jvm.Cond.fieldLink own_SS (74 : Nat) own_ST "kept" "Z") a0 Z = true := hw _ (List.mem_of_getElem? (i := 131) rfl)
theorem own_w132 {Z : State} {a0 : Array Value} (hw : ∀ d ∈ tables_1, d.before a0 Z = true) : Jvm.Cond.before (Jvm.Cond.lays own_ST own_ST "kept" "Z") a0 Z = true := hw _ (List.mem_of_getElem? (i := 132) rfl)
theorem own_w133 {Z : State} {a0 : Array Value} (hw : ∀ d ∈ tables_1, d.before a0 Z = true) : Jvm.Cond.before (Jvm.Cond.fieldLink own_SS (77 : Nat) own_ST "firstRun" own_dRUN) a0 Z = true := hw _ (List.mem_of_getElem? (i := 133) rfl)
theorem own_w134 {Z : State} {a0 : Array Value} (hw : ∀ d ∈ tables_1, d.before a0 Z = true) : Jvm.Cond.before (Jvm.Cond.methodLink own_TP (7 : Nat) ({ cls := own_TP, name := "priority", desc := "(Lcom/example/tierfold/tierfold/tiered/SharedTail;)I" } : Jvm.MethodName)) a0 Z = true := hw _ (List.mem_of_getElem? (i := 134) rfl)
theorem own_w135 {Z : State} {a0 : Array Value} (hw : ∀ d ∈ tables_1, d.before a0 Z = true) : Jvm.Cond.before (Jvm.Cond.static ({ cls := own_TP, name := "priority", desc := "(Lcom/example/tierfold/tierfold/tiered/SharedTail;)I" } : Jvm.MethodName)) a0 Z = true := hw _ (List.mem_of_getElem? (i := 135) rfl)
theorem own_w136 {Z : State} {a0 : Array Value} (hw : ∀ d ∈ tables_1, d.before a0 Z = true) : Jvm.Cond.before (Jvm.Cond.code ({ cls := own_TP, name := "priority", desc := "(Lcom/example/tierfold/tierfold/tiered/SharedTail;)I" } : Jvm.MethodName) prog_159_method_12_code (3 : Nat) (Option.some Jvm.ClassFile.FieldType.int)) a0 Z = true := hw _ (List.mem_of_getElem? (i := 136) rfl)
theorem own_w137 {Z : State} {a0 : Array Value} (hw : ∀ d ∈ tables_1, d.before a0 Z = true) : Jvm.Cond.before (Jvm.Cond.fieldLink own_TP (55 : Nat) own_ST "low" "J") a0 Z = true := hw _ (List.mem_of_getElem? (i := 137) rfl)
theorem own_w138 {Z : State} {a0 : Array Value} (hw : ∀ d ∈ tables_1, d.before a0 Z = true) : Jvm.Cond.before (Jvm.Cond.constantLong own_TP (59 : Nat) (-7046029254386353131 : Int64)) a0 Z = true := hw _ (List.mem_of_getElem? (i := 138) rfl)
theorem own_w139 {Z : State} {a0 : Array Value} (hw : ∀ d ∈ tables_1, d.before a0 Z = true) : Jvm.Cond.before (Jvm.Cond.fieldLink own_TP (49 : Nat) own_ST "places" "I") a0 Z = true := hw _ (List.mem_of_getElem? (i := 139) rfl)
theorem own_w140 {Z : State} {a0 : Array Value} (hw : ∀ d ∈ tables_1, d.before a0 Z = true) : Jvm.Cond.before (Jvm.Cond.constantLong own_TP (61 : Nat) (-49064778989728563 : Int64)) a0 Z = true := hw _ (List.mem_of_getElem? (i := 140) rfl)
theorem own_w141 {Z : State} {a0 : Array Value} (hw : ∀ d ∈ tables_1, d.before a0 Z = true) : Jvm.Cond.before (Jvm.Cond.methodLink own_TP (28 : Nat) ({ cls := own_TP, name := "before", desc := "(Lcom/example/tierfold/tierfold/tiered/SharedTail;Lcom/example/tierfold/tierfold/tiered/SharedTail;)Z" } : Jvm.MethodName)) a0 Z = true := hw _ (List.mem_of_getElem? (i := 141) rfl)
theorem own_w142 {Z : State} {a0 : Array Value} (hw : ∀ d ∈ tables_1, d.before a0 Z = true) : Jvm.Cond.before (Jvm.Cond.static ({ cls := own_TP, name := "before", desc := "(Lcom/example/tierfold/tierfold/tiered/SharedTail;Lcom/example/tierfold/tierfold/tiered/SharedTail;)Z" } : Jvm.MethodName)) a0 Z = true := hw _ (List.mem_of_getElem? (i := 142) rfl)
theorem own_w143 {Z : State} {a0 : Array Value} (hw : ∀ d ∈ tables_1, d.before a0 Z = true) : Jvm.Cond.before (Jvm.Cond.code ({ cls := own_TP, name := "before", desc := "(Lcom/example/tierfold/tierfold/tiered/SharedTail;Lcom/example/tierfold/tierfold/tiered/SharedTail;)Z" } : Jvm.MethodName) prog_159_method_9_code (2 : Nat) (Option.some Jvm.ClassFile.FieldType.boolean)) a0 Z = true := hw _ (List.mem_of_getElem? (i := 143) rfl)
theorem own_w144 {Z : State} {a0 : Array Value} (hw : ∀ d ∈ tables_1, d.before a0 Z = true) : Jvm.Cond.before (Jvm.Cond.methodLink own_TP (40 : Nat) ({ cls := own_TP, name := "right", desc := "(Lcom/example/tierfold/tierfold/tiered/SharedTail;)Lcom/example/tierfold/tierfold/tiered/SharedTail;" } : Jvm.MethodName)) a0 Z = true := hw _ (List.mem_of_getElem? (i := 144) rfl)
theorem own_w145 {Z : State} {a0 : Array Value} (hw : ∀ d ∈ tables_1, d.before a0 Z = true) : Jvm.Cond.before (Jvm.Cond.declares ({ cls := own_TP, name := "right", desc := "(Lcom/example/tierfold/tierfold/tiered/SharedTail;)Lcom/example/tierfold/tierfold/tiered/SharedTail;" } : Jvm.MethodName)) a0 Z = true := hw _ (List.mem_of_getElem? (i := 145) rfl)
theorem own_w146 {Z : State} {a0 : Array Value} (hw : ∀ d ∈ tables_1, d.before a0 Z = true) : Jvm.Cond.before (Jvm.Cond.selects own_S1 ({ cls := own_TP, name := "right", desc := "(Lcom/example/tierfold/tierfold/tiered/SharedTail;)Lcom/example/tierfold/tierfold/tiered/SharedTail;" } : Jvm.MethodName) ({ cls := own_S1, name := "right", desc := "(Lcom/example/tierfold/tierfold/tiered/SharedTail;)Lcom/example/tierfold/tierfold/tiered/SharedTail;" } : Jvm.MethodName)) a0 Z = true := hw _ (List.mem_of_getElem? (i := 146) rfl)
theorem own_w147 {Z : State} {a0 : Array Value} (hw : ∀ d ∈ tables_1, d.before a0 Z = true) : Jvm.Cond.before (Jvm.Cond.instanceMethod ({ cls := own_S1, name := "right", desc := "(Lcom/example/tierfold/tierfold/tiered/SharedTail;)Lcom/example/tierfold/tierfold/tiered/SharedTail;" } : Jvm.MethodName)) a0 Z = true := hw _ (List.mem_of_getElem? (i := 147) rfl)
theorem own_w148 {Z : State} {a0 : Array Value} (hw : ∀ d ∈ tables_1, d.before a0 Z = true) : Jvm.Cond.before (Jvm.Cond.initialized own_S1) a0 Z = true := hw _ (List.mem_of_getElem? (i := 148) rfl)
theorem own_w149 {Z : State} {a0 : Array Value} (hw : ∀ d ∈ tables_1, d.before a0 Z = true) : Jvm.Cond.before (Jvm.Cond.code ({ cls := own_S1, name := "right", desc := "(Lcom/example/tierfold/tierfold/tiered/SharedTail;)Lcom/example/tierfold/tierfold/tiered/SharedTail;" } : Jvm.MethodName) prog_151_method_3_code (2 : Nat) (Option.some (Jvm.ClassFile.FieldType.object own_ST))) a0 Z = true := hw _ (List.mem_of_getElem? (i := 149) rfl)
theorem own_w150 {Z : State} {a0 : Array Value} (hw : ∀ d ∈ tables_1, d.before a0 Z = true) : Jvm.Cond.before (Jvm.Cond.fieldLink own_S1 (13 : Nat) own_ST "keptRight" own_dST) a0 Z = true := hw _ (List.mem_of_getElem? (i := 150) rfl)
theorem own_w151 {Z : State} {a0 : Array Value} (hw : ∀ d ∈ tables_1, d.before a0 Z = true) : Jvm.Cond.before (Jvm.Cond.lays own_ST own_ST "keptRight" own_dST) a0 Z = true := hw _ (List.mem_of_getElem? (i := 151) rfl)
theorem own_w152 {Z : State} {a0 : Array Value} (hw : ∀ d ∈ tables_1, d.before a0 Z = true) : Jvm.Cond.before (Jvm.Cond.methodLink own_TP (36 : Nat) ({ cls := own_TP, name := "insert", desc := "(Lcom/example/tierfold/tierfold/tiered/SharedTail;Lcom/example/tierfold/tierfold/tiered/SharedTail;)Lcom/example/tierfold/tierfold/tiered/SharedTail;" } : Jvm.MethodName)) a0 Z = true := hw _ (List.mem_of_getElem? (i := 152) rfl)
theorem own_w153 {Z : State} {a0 : Array Value} (hw : ∀ d ∈ tables_1, d.before a0 Z = true) : Jvm.Cond.before (Jvm.Cond.methodLink own_TP (21 : Nat) ({ cls := own_TP, name := "setRight", desc := "(Lcom/example/tierfold/tierfold/tiered/SharedTail;Lcom/example/tierfold/tierfold/tiered/SharedTail;)V" } : Jvm.MethodName)) a0 Z = true := hw _ (List.mem_of_getElem? (i := 153) rfl)
theorem own_w154 {Z : State} {a0 : Array Value} (hw : ∀ d ∈ tables_1, d.before a0 Z = true) : Jvm.Cond.before (Jvm.Cond.declares ({ cls := own_TP, name := "setRight", desc := "(Lcom/example/tierfold/tierfold/tiered/SharedTail;Lcom/example/tierfold/tierfold/tiered/SharedTail;)V" } : Jvm.MethodName)) a0 Z = true := hw _ (List.mem_of_getElem? (i := 154) rfl)
theorem own_w155 {Z : State} {a0 : Array Value} (hw : ∀ d ∈ tables_1, d.before a0 Z = true) : Jvm.Cond.before (Jvm.Cond.selects own_S1 ({ cls := own_TP, name := "setRight", desc := "(Lcom/example/tierfold/tierfold/tiered/SharedTail;Lcom/example/tierfold/tierfold/tiered/SharedTail;)V" } : Jvm.MethodName) ({ cls := own_S1, name := "setRight", desc := "(Lcom/example/tierfold/tierfold/tiered/SharedTail;Lcom/example/tierfold/tierfold/tiered/SharedTail;)V" } : Jvm.MethodName)) a0 Z = true := hw _ (List.mem_of_getElem? (i := 155) rfl)
theorem own_w156 {Z : State} {a0 : Array Value} (hw : ∀ d ∈ tables_1, d.before a0 Z = true) : Jvm.Cond.before (Jvm.Cond.instanceMethod ({ cls := own_S1, name := "setRight", desc := "(Lcom/example/tierfold/tierfold/tiered/SharedTail;Lcom/example/tierfold/tierfold/tiered/SharedTail;)V" } : Jvm.MethodName)) a0 Z = true := hw _ (List.mem_of_getElem? (i := 156) rfl)
theorem own_w157 {Z : State} {a0 : Array Value} (hw : ∀ d ∈ tables_1, d.before a0 Z = true) : Jvm.Cond.before (Jvm.Cond.code ({ cls := own_S1, name := "setRight", desc := "(Lcom/example/tierfold/tierfold/tiered/SharedTail;Lcom/example/tierfold/tierfold/tiered/SharedTail;)V" } : Jvm.MethodName) prog_151_method_5_code (3 : Nat) (Option.none : Option Jvm.ClassFile.FieldType)) a0 Z = true := hw _ (List.mem_of_getElem? (i := 157) rfl)
theorem own_w158 {Z : State} {a0 : Array Value} (hw : ∀ d ∈ tables_1, d.before a0 Z = true) : Jvm.Cond.before (Jvm.Cond.methodLink own_TP (24 : Nat) ({ cls := own_TP, name := "update", desc := "(Lcom/example/tierfold/tierfold/tiered/SharedTail;)V" } : Jvm.MethodName)) a0 Z = true := hw _ (List.mem_of_getElem? (i := 158) rfl)
theorem own_w159 {Z : State} {a0 : Array Value} (hw : ∀ d ∈ tables_1, d.before a0 Z = true) : Jvm.Cond.before (Jvm.Cond.declares ({ cls := own_TP, name := "update", desc := "(Lcom/example/tierfold/tierfold/tiered/SharedTail;)V" } : Jvm.MethodName)) a0 Z = true := hw _ (List.mem_of_getElem? (i := 159) rfl)
theorem own_w160 {Z : State} {a0 : Array Value} (hw : ∀ d ∈ tables_1, d.before a0 Z = true) : Jvm.Cond.before (Jvm.Cond.instanceMethod ({ cls := own_TP, name := "update", desc := "(Lcom/example/tierfold/tierfold/tiered/SharedTail;)V" } : Jvm.MethodName)) a0 Z = true := hw _ (List.mem_of_getElem? (i := 160) rfl)
theorem own_w161 {Z : State} {a0 : Array Value} (hw : ∀ d ∈ tables_1, d.before a0 Z = true) : Jvm.Cond.before (Jvm.Cond.selects own_S1 ({ cls := own_TP, name := "update", desc := "(Lcom/example/tierfold/tierfold/tiered/SharedTail;)V" } : Jvm.MethodName) ({ cls := own_TP, name := "update", desc := "(Lcom/example/tierfold/tierfold/tiered/SharedTail;)V" } : Jvm.MethodName)) a0 Z = true := hw _ (List.mem_of_getElem? (i := 161) rfl)
theorem own_w162 {Z : State} {a0 : Array Value} (hw : ∀ d ∈ tables_1, d.before a0 Z = true) : Jvm.Cond.before (Jvm.Cond.code ({ cls := own_TP, name := "update", desc := "(Lcom/example/tierfold/tierfold/tiered/SharedTail;)V" } : Jvm.MethodName) prog_159_method_6_code (2 : Nat) (Option.none : Option Jvm.ClassFile.FieldType)) a0 Z = true := hw _ (List.mem_of_getElem? (i := 162) rfl)
theorem own_w163 {Z : State} {a0 : Array Value} (hw : ∀ d ∈ tables_1, d.before a0 Z = true) : Jvm.Cond.before (Jvm.Cond.methodLink own_TP (13 : Nat) ({ cls := own_TP, name := "split", desc := "(Lcom/example/tierfold/tierfold/tiered/SharedTail;Lcom/example/tierfold/tierfold/tiered/SharedTail;)[Lcom/example/tierfold/tierfold/tiered/SharedTail;" } : Jvm.MethodName)) a0 Z = true := hw _ (List.mem_of_getElem? (i := 163) rfl)
theorem own_w164 {Z : State} {a0 : Array Value} (hw : ∀ d ∈ tables_1, d.before a0 Z = true) : Jvm.Cond.before (Jvm.Cond.instanceMethod ({ cls := own_TP, name := "split", desc := "(Lcom/example/tierfold/tierfold/tiered/SharedTail;Lcom/example/tierfold/tierfold/tiered/SharedTail;)[Lcom/example/tierfold/tierfold/tiered/SharedTail;" } : Jvm.MethodName)) a0 Z = true := hw _ (List.mem_of_getElem? (i := 164) rfl)
theorem own_w165 {Z : State} {a0 : Array Value} (hw : ∀ d ∈ tables_1, d.before a0 Z = true) : Jvm.Cond.before (Jvm.Cond.privateMethod ({ cls := own_TP, name := "split", desc := "(Lcom/example/tierfold/tierfold/tiered/SharedTail;Lcom/example/tierfold/tierfold/tiered/SharedTail;)[Lcom/example/tierfold/tierfold/tiered/SharedTail;" } : Jvm.MethodName)) a0 Z = true := hw _ (List.mem_of_getElem? (i := 165) rfl)
theorem own_w166 {Z : State} {a0 : Array Value} (hw : ∀ d ∈ tables_1, d.before a0 Z = true) : Jvm.Cond.before (Jvm.Cond.code ({ cls := own_TP, name := "split", desc := "(Lcom/example/tierfold/tierfold/tiered/SharedTail;Lcom/example/tierfold/tierfold/tiered/SharedTail;)[Lcom/example/tierfold/tierfold/tiered/SharedTail;" } : Jvm.MethodName) prog_159_method_10_code (4 : Nat) (Option.some (Jvm.ClassFile.FieldType.array (Jvm.ClassFile.FieldType.object own_ST)))) a0 Z = true := hw _ (List.mem_of_getElem? (i := 166) rfl)
theorem own_w167 {Z : State} {a0 : Array Value} (hw : ∀ d ∈ tables_1, d.before a0 Z = true) : Jvm.Cond.before (Jvm.Cond.classLink own_TP (50 : Nat) own_ST) a0 Z = true := hw _ (List.mem_of_getElem? (i := 167) rfl)
theorem own_w168 {Z : State} {a0 : Array Value} (hw : ∀ d ∈ tables_1, d.before a0 Z = true) : Jvm.Cond.before (Jvm.Cond.arrayOver (Jvm.ClassFile.FieldType.object own_ST)) a0 Z = true := hw _ (List.mem_of_getElem? (i := 168) rfl)
theorem own_w170 {Z : State} {a0 : Array Value} (hw : ∀ d ∈ tables_1, d.before a0 Z = true) : Jvm.Cond.before (Jvm.Cond.methodLink own_TP (17 : Nat) ({ cls := own_TP, name := "setLeft", desc := "(Lcom/example/tierfold/tierfold/tiered/SharedTail;Lcom/example/tierfold/tierfold/tiered/SharedTail;)V" } : Jvm.MethodName)) a0 Z = true := hw _ (List.mem_of_getElem? (i := 170) rfl)
theorem own_w171 {Z : State} {a0 : Array Value} (hw : ∀ d ∈ tables_1, d.before a0 Z = true) : Jvm.Cond.before (Jvm.Cond.declares ({ cls := own_TP, name := "setLeft", desc := "(Lcom/example/tierfold/tierfold/tiered/SharedTail;Lcom/example/tierfold/tierfold/tiered/SharedTail;)V" } : Jvm.MethodName)) a0 Z = true := hw _ (List.mem_of_getElem? (i := 171) rfl)
theorem own_w172 {Z : State} {a0 : Array Value} (hw : ∀ d ∈ tables_1, d.before a0 Z = true) : Jvm.Cond.before (Jvm.Cond.selects own_S1 ({ cls := own_TP, name := "setLeft", desc := "(Lcom/example/tierfold/tierfold/tiered/SharedTail;Lcom/example/tierfold/tierfold/tiered/SharedTail;)V" } : Jvm.MethodName) ({ cls := own_S1, name := "setLeft", desc := "(Lcom/example/tierfold/tierfold/tiered/SharedTail;Lcom/example/tierfold/tierfold/tiered/SharedTail;)V" } : Jvm.MethodName)) a0 Z = true := hw _ (List.mem_of_getElem? (i := 172) rfl)
theorem own_w173 {Z : State} {a0 : Array Value} (hw : ∀ d ∈ tables_1, d.before a0 Z = true) : Jvm.Cond.before (Jvm.Cond.instanceMethod ({ cls := own_S1, name := "setLeft", desc := "(Lcom/example/tierfold/tierfold/tiered/SharedTail;Lcom/example/tierfold/tierfold/tiered/SharedTail;)V" } : Jvm.MethodName)) a0 Z = true := hw _ (List.mem_of_getElem? (i := 173) rfl)
theorem own_w174 {Z : State} {a0 : Array Value} (hw : ∀ d ∈ tables_1, d.before a0 Z = true) : Jvm.Cond.before (Jvm.Cond.code ({ cls := own_S1, name := "setLeft", desc := "(Lcom/example/tierfold/tierfold/tiered/SharedTail;Lcom/example/tierfold/tierfold/tiered/SharedTail;)V" } : Jvm.MethodName) prog_151_method_4_code (3 : Nat) (Option.none : Option Jvm.ClassFile.FieldType)) a0 Z = true := hw _ (List.mem_of_getElem? (i := 174) rfl)
theorem own_w175 {Z : State} {a0 : Array Value} (hw : ∀ d ∈ tables_1, d.before a0 Z = true) : Jvm.Cond.before (Jvm.Cond.fieldLink own_S1 (7 : Nat) own_ST "keptLeft" own_dST) a0 Z = true := hw _ (List.mem_of_getElem? (i := 175) rfl)
theorem own_w176 {Z : State} {a0 : Array Value} (hw : ∀ d ∈ tables_1, d.before a0 Z = true) : Jvm.Cond.before (Jvm.Cond.lays own_ST own_ST "keptLeft" own_dST) a0 Z = true := hw _ (List.mem_of_getElem? (i := 176) rfl)
theorem own_w177 {Z : State} {a0 : Array Value} (hw : ∀ d ∈ tables_1, d.before a0 Z = true) : Jvm.Cond.before (Jvm.Cond.methodLink x.cls (34 : Nat) ({ cls := x.cls, name := "holds", desc := "(IJJIJ)Z" } : Jvm.MethodName)) a0 Z = true := hw _ (List.mem_of_getElem? (i := 177) rfl)
theorem own_w178 {Z : State} {a0 : Array Value} (hw : ∀ d ∈ tables_1, d.before a0 Z = true) : Jvm.Cond.before (Jvm.Cond.static ({ cls := x.cls, name := "holds", desc := "(IJJIJ)Z" } : Jvm.MethodName)) a0 Z = true := hw _ (List.mem_of_getElem? (i := 178) rfl)
theorem own_w179 {Z : State} {a0 : Array Value} (hw : ∀ d ∈ tables_1, d.before a0 Z = true) : Jvm.Cond.before (Jvm.Cond.code ({ cls := x.cls, name := "holds", desc := "(IJJIJ)Z" } : Jvm.MethodName) method_5_code (8 : Nat) (Option.some Jvm.ClassFile.FieldType.boolean)) a0 Z = true := hw _ (List.mem_of_getElem? (i := 179) rfl)
theorem own_w180 {Z : State} {a0 : Array Value} (hw : ∀ d ∈ tables_1, d.before a0 Z = true) : Jvm.Cond.before (Jvm.Cond.methodLink x.cls (38 : Nat) ({ cls := own_SS, name := "find", desc := "(IJ)Lcom/example/tierfold/tierfold/tiered/SharedTail;" } : Jvm.MethodName)) a0 Z = true := hw _ (List.mem_of_getElem? (i := 180) rfl)
theorem own_w181 {Z : State} {a0 : Array Value} (hw : ∀ d ∈ tables_1, d.before a0 Z = true) : Jvm.Cond.before (Jvm.Cond.declares ({ cls := own_SS, name := "find", desc := "(IJ)Lcom/example/tierfold/tierfold/tiered/SharedTail;" } : Jvm.MethodName)) a0 Z = true := hw _ (List.mem_of_getElem? (i := 181) rfl)
theorem own_w182 {Z : State} {a0 : Array Value} (hw : ∀ d ∈ tables_1, d.before a0 Z = true) : Jvm.Cond.before (Jvm.Cond.instanceMethod ({ cls := own_SS, name := "find", desc := "(IJ)Lcom/example/tierfold/tierfold/tiered/SharedTail;" } : Jvm.MethodName)) a0 Z = true := hw _ (List.mem_of_getElem? (i := 182) rfl)
theorem own_w183 {Z : State} {a0 : Array Value} (hw : ∀ d ∈ tables_1, d.before a0 Z = true) : Jvm.Cond.before (Jvm.Cond.selects own_SS ({ cls := own_SS, name := "find", desc := "(IJ)Lcom/example/tierfold/tierfold/tiered/SharedTail;" } : Jvm.MethodName) ({ cls := own_SS, name := "find", desc := "(IJ)Lcom/example/tierfold/tierfold/tiered/SharedTail;" } : Jvm.MethodName)) a0 Z = true := hw _ (List.mem_of_getElem? (i := 183) rfl)
theorem own_w184 {Z : State} {a0 : Array Value} (hw : ∀ d ∈ tables_1, d.before a0 Z = true) : Jvm.Cond.before (Jvm.Cond.code ({ cls := own_SS, name := "find", desc := "(IJ)Lcom/example/tierfold/tierfold/tiered/SharedTail;" } : Jvm.MethodName) prog_150_method_2_code (6 : Nat) (Option.some (Jvm.ClassFile.FieldType.object own_ST))) a0 Z = true := hw _ (List.mem_of_getElem? (i := 184) rfl)
theorem own_w185 {Z : State} {a0 : Array Value} (hw : ∀ d ∈ tables_1, d.before a0 Z = true) : Jvm.Cond.before (Jvm.Cond.fieldLink own_SS (42 : Nat) own_ST "places" "I") a0 Z = true := hw _ (List.mem_of_getElem? (i := 185) rfl)
theorem own_w186 {Z : State} {a0 : Array Value} (hw : ∀ d ∈ tables_1, d.before a0 Z = true) : Jvm.Cond.before (Jvm.Cond.fieldLink own_SS (52 : Nat) own_ST "keptRight" own_dST) a0 Z = true := hw _ (List.mem_of_getElem? (i := 186) rfl)
theorem own_w187 {Z : State} {a0 : Array Value} (hw : ∀ d ∈ tables_1, d.before a0 Z = true) : Jvm.Cond.before (Jvm.Cond.methodLink own_TP (32 : Nat) ({ cls := own_TP, name := "left", desc := "(Lcom/example/tierfold/tierfold/tiered/SharedTail;)Lcom/example/tierfold/tierfold/tiered/SharedTail;" } : Jvm.MethodName)) a0 Z = true := hw _ (List.mem_of_getElem? (i := 187) rfl)
theorem own_w188 {Z : State} {a0 : Array Value} (hw : ∀ d ∈ tables_1, d.before a0 Z = true) : Jvm.Cond.before (Jvm.Cond.declares ({ cls := own_TP, name := "left", desc := "(Lcom/example/tierfold/tierfold/tiered/SharedTail;)Lcom/example/tierfold/tierfold/tiered/SharedTail;" } : Jvm.MethodName)) a0 Z = true := hw _ (List.mem_of_getElem? (i := 188) rfl)
theorem own_w189 {Z : State} {a0 : Array Value} (hw : ∀ d ∈ tables_1, d.before a0 Z = true) : Jvm.Cond.before (Jvm.Cond.selects own_S1 ({ cls := own_TP, name := "left", desc := "(Lcom/example/tierfold/tierfold/tiered/SharedTail;)Lcom/example/tierfold/tierfold/tiered/SharedTail;" } : Jvm.MethodName) ({ cls := own_S1, name := "left", desc := "(Lcom/example/tierfold/tierfold/tiered/SharedTail;)Lcom/example/tierfold/tierfold/tiered/SharedTail;" } : Jvm.MethodName)) a0 Z = true := hw _ (List.mem_of_getElem? (i := 189) rfl)
theorem own_w190 {Z : State} {a0 : Array Value} (hw : ∀ d ∈ tables_1, d.before a0 Z = true) : Jvm.Cond.before (Jvm.Cond.instanceMethod ({ cls := own_S1, name := "left", desc := "(Lcom/example/tierfold/tierfold/tiered/SharedTail;)Lcom/example/tierfold/tierfold/tiered/SharedTail;" } : Jvm.MethodName)) a0 Z = true := hw _ (List.mem_of_getElem? (i := 190) rfl)
theorem own_w191 {Z : State} {a0 : Array Value} (hw : ∀ d ∈ tables_1, d.before a0 Z = true) : Jvm.Cond.before (Jvm.Cond.code ({ cls := own_S1, name := "left", desc := "(Lcom/example/tierfold/tierfold/tiered/SharedTail;)Lcom/example/tierfold/tierfold/tiered/SharedTail;" } : Jvm.MethodName) prog_151_method_2_code (2 : Nat) (Option.some (Jvm.ClassFile.FieldType.object own_ST))) a0 Z = true := hw _ (List.mem_of_getElem? (i := 191) rfl)
theorem own_w192 {Z : State} {a0 : Array Value} (hw : ∀ d ∈ tables_1, d.before a0 Z = true) : Jvm.Cond.before (Jvm.Cond.fieldLink own_SS (55 : Nat) own_ST "keptLeft" own_dST) a0 Z = true := hw _ (List.mem_of_getElem? (i := 192) rfl)
theorem own_w193 {Z : State} {a0 : Array Value} (hw : ∀ d ∈ tables_1, d.before a0 Z = true) : Jvm.Cond.before (Jvm.Cond.fieldLink own_SS (48 : Nat) own_ST "low" "J") a0 Z = true := hw _ (List.mem_of_getElem? (i := 193) rfl)
theorem own_w194 {Z : State} {a0 : Array Value} (hw : ∀ d ∈ tables_1, d.before a0 Z = true) : Jvm.Cond.before (Jvm.Cond.fieldLink own_SS (58 : Nat) own_ST "high" "J") a0 Z = true := hw _ (List.mem_of_getElem? (i := 194) rfl)
theorem pd_0 : parseMethodDescriptor "()V" = some ⟨[], none⟩ := by decide +kernel
theorem pd_1 : parseMethodDescriptor "([II)V" = some ⟨[(.array .int), .int], none⟩ := by decide +kernel
theorem pd_2 : parseMethodDescriptor "(I)V" = some ⟨[.int], none⟩ := by decide +kernel
theorem pd_3 : parseMethodDescriptor "([J[IJJ)V" = some ⟨[(.array .long), (.array .int), .long, .long], none⟩ := by decide +kernel
theorem pd_4 : parseMethodDescriptor "(Lcom/example/tierfold/tierfold/tiered/SharedTail;Lcom/example/tierfold/tierfold/tiered/SharedTail;)Z" = some ⟨[(.object own_ST), (.object own_ST)], some .boolean⟩ := by decide +kernel
theorem pd_5 : parseMethodDescriptor "(Lcom/example/tierfold/tierfold/tiered/SharedTail;)Lcom/example/tierfold/tierfold/tiered/SharedTail;" = some ⟨[(.object own_ST)], some (.object own_ST)⟩ := by decide +kernel
theorem pd_6 : parseMethodDescriptor "(Lcom/example/tierfold/tierfold/tiered/SharedTail;Lcom/example/tierfold/tierfold/tiered/SharedTail;)[Lcom/example/tierfold/tierfold/tiered/SharedTail;" = some ⟨[(.object own_ST), (.object own_ST)], some (.array (.object own_ST))⟩ := by decide +kernel
theorem pd_7 : parseMethodDescriptor "(Lcom/example/tierfold/tierfold/tiered/SharedTail;Lcom/example/tierfold/tierfold/tiered/SharedTail;)V" = some ⟨[(.object own_ST), (.object own_ST)], none⟩ := by decide +kernel
theorem pd_8 : parseMethodDescriptor "(Lcom/example/tierfold/tierfold/tiered/SharedTail;)V" = some ⟨[(.object own_ST)], none⟩ := by decide +kernel
theorem pd_9 : parseMethodDescriptor "(Lcom/example/tierfold/tierfold/tiered/SharedTail;)I" = some ⟨[(.object own_ST)], some .int⟩ := by decide +kernel
theorem pd_10 : parseMethodDescriptor "(Lcom/example/tierfold/tierfold/tiered/SharedTail;Lcom/example/tierfold/tierfold/tiered/SharedTail;)Lcom/example/tierfold/tierfold/tiered/SharedTail;" = some ⟨[(.object own_ST), (.object own_ST)], some (.object own_ST)⟩ := by decide +kernel
theorem pd_11 : parseMethodDescriptor "(I[IJJJJLcom/example/tierfold/tierfold/tiered/TailSet;)V" = some ⟨[.int, (.array .int), .long, .long, .long, .long, (.object own_TS)], none⟩ := by decide +kernel
theorem pd_12 : parseMethodDescriptor "(JJ)J" = some ⟨[.long, .long], some .long⟩ := by decide +kernel
theorem pd_13 : parseMethodDescriptor "(IJJIJJ)Z" = some ⟨[.int, .long, .long, .int, .long, .long], some .boolean⟩ := by decide +kernel
theorem pd_14 : parseMethodDescriptor "()Lcom/example/tierfold/tierfold/tiered/TailSet;" = some ⟨[], some (.object own_TS)⟩ := by decide +kernel
theorem pd_15 : parseMethodDescriptor "(I[IJJJJLcom/example/tierfold/tierfold/tiered/TailSet;)Lcom/example/tierfold/tierfold/tiered/SharedTail;" = some ⟨[.int, (.array .int), .long, .long, .long, .long, (.object own_TS)], some (.object own_ST)⟩ := by decide +kernel
theorem pd_16 : parseMethodDescriptor "(IJJIJ)Z" = some ⟨[.int, .long, .long, .int, .long], some .boolean⟩ := by decide +kernel
theorem pd_17 : parseMethodDescriptor "(IJ)Lcom/example/tierfold/tierfold/tiered/SharedTail;" = some ⟨[.int, .long], some (.object own_ST)⟩ := by decide +kernel
def own_QJ (r : Int64) (h0 : Heap) (n0 : Nat) (v : Option Value) (h : Heap) (L : List Loc) : Prop := v = some (.long r) ∧ Fr n0 L ∧ h = h0
theorem dsh_0 : decode method_3_code 0 = .ok (.lload_n 2, 1) := by decide +kernel
theorem dsh_1 : decode method_3_code 1 = .ok (.lconst 0, 1) := by decide +kernel
theorem dsh_2 : decode method_3_code 2 = .ok (.lcmp, 1) := by decide +kernel
theorem dsh_3 : decode method_3_code 3 = .ok (.ifCond .lt 23, 3) := by decide +kernel
theorem dsh_6 : decode method_3_code 6 = .ok (.lload_n 0, 1) := by decide +kernel
theorem dsh_7 : decode method_3_code 7 = .ok (.ldc2_w 44, 3) := by decide +kernel
theorem dsh_10 : decode method_3_code 10 = .ok (.lload_n 2, 1) := by decide +kernel
theorem dsh_11 : decode method_3_code 11 = .ok (.lsub, 1) := by decide +kernel
theorem dsh_12 : decode method_3_code 12 = .ok (.lcmp, 1) := by decide +kernel
theorem dsh_13 : decode method_3_code 13 = .ok (.ifCond .le 9, 3) := by decide +kernel
theorem dsh_16 : decode method_3_code 16 = .ok (.ldc2_w 44, 3) := by decide +kernel
theorem dsh_19 : decode method_3_code 19 = .ok (.goto 6, 3) := by decide +kernel
theorem dsh_22 : decode method_3_code 22 = .ok (.lload_n 0, 1) := by decide +kernel
theorem dsh_23 : decode method_3_code 23 = .ok (.lload_n 2, 1) := by decide +kernel
theorem dsh_24 : decode method_3_code 24 = .ok (.ladd, 1) := by decide +kernel
theorem dsh_25 : decode method_3_code 25 = .ok (.lreturn, 1) := by decide +kernel
theorem dsh_26 : decode method_3_code 26 = .ok (.lload_n 0, 1) := by decide +kernel
theorem dsh_27 : decode method_3_code 27 = .ok (.ldc2_w 46, 3) := by decide +kernel
theorem dsh_30 : decode method_3_code 30 = .ok (.lload_n 2, 1) := by decide +kernel
theorem dsh_31 : decode method_3_code 31 = .ok (.lsub, 1) := by decide +kernel
theorem dsh_32 : decode method_3_code 32 = .ok (.lcmp, 1) := by decide +kernel
theorem dsh_33 : decode method_3_code 33 = .ok (.ifCond .ge 9, 3) := by decide +kernel
theorem dsh_36 : decode method_3_code 36 = .ok (.ldc2_w 46, 3) := by decide +kernel
theorem dsh_39 : decode method_3_code 39 = .ok (.goto 6, 3) := by decide +kernel
theorem dsh_42 : decode method_3_code 42 = .ok (.lload_n 0, 1) := by decide +kernel
theorem dsh_43 : decode method_3_code 43 = .ok (.lload_n 2, 1) := by decide +kernel
theorem dsh_44 : decode method_3_code 44 = .ok (.ladd, 1) := by decide +kernel
theorem dsh_45 : decode method_3_code 45 = .ok (.lreturn, 1) := by decide +kernel
theorem ef_sh (mI : MethodId) (xx : Int64) (dd : Int64) : entryFrame mI #[(.long xx), (.long dd)] 4 = mkF mI 0 #[.val (.long xx), .second, .val (.long dd), .second] [] := by first | (simp [entryFrame, mkF, argsToLocals, Value.category]; done) | rfl
theorem pn_sh : plainName x.cls = true := by first | decide +kernel | (simp [plainName, overriddenIn]; done)
set_option maxRecDepth 65536 in
set_option maxHeartbeats 40000000 in
theorem rmsh (lL : Launch) (Z : State) (a0 : Array Value) (hw : ∀ d ∈ tables_1, d.before a0 Z = true) (ws : List Jvm.Cond) (xx : Int64) (dd : Int64) (h0 : Heap) (n0 : Nat) (Z0 : n0 ≤ h0.size) :
    MetFree lL (⟨x.cls, "shift", "(JJ)J"⟩ : MethodName) (head1 (Jvm.Cond.code (⟨x.cls, "shift", "(JJ)J"⟩ : MethodName) method_3_code 4 (some .long) :: ws) ({ frames := 0, cells := 0, slots := 0, locals := 0 } : Room)) (fun a_ U_ => a_ = #[(.long xx), (.long dd)] ∧ Z.Warmed39 U_.vm ∧ U_.heap = h0) (fun _ _ _ _ _ => True) (fun _ U_ o_ W_ => ∃ v_ L_, o_ = .returned v_ ∧ own_QJ (own_sh xx dd) h0 n0 v_ W_.heap L_ ∧ FrameEnd U_ o_ W_ L_ ({ frames := 0, cells := 0, slots := 0, locals := 0 } : Room).cells ({ frames := 0, cells := 0, slots := 0, locals := 0 } : Room).slots) := by
  refine MetFree.of_bodySF (plainFor_of_name pn_sh) hisR ?_
  intro pP eE sS mI args below meth cC s₁ Bd hml0 hP hK
  obtain ⟨rfl, hZ, hh⟩ := hP
  have hx := Bd.exec
  have hby := Bd.bytes
  have hml : cC.maxLocals = 4 := hml0
  have hown : sS.vm.findClass x.cls = some mI.cls := by have z := findClass_of_methodNamed Bd.named; exact z
  have hnm := (name_of_methodNamed Bd.named Bd.method).1
  have X0 : Stand pP lL eE ({ frames := 0, cells := 0, slots := 0, locals := 0 } : Room) sS mI #[(.long xx), (.long dd)] below meth cC s₁ [] 0 0 := Stand.of_body Bd
  have e0 : s₁.heap = h0 := by rw [← hh, Bd.state]; rfl
  have N0 := Fr.nil n0
  obtain ⟨G, hG, hst, hend⟩ := own_abs pP eE below sS (own_QJ (own_sh xx dd) h0 n0) ({ frames := 0, cells := 0, slots := 0, locals := 0 } : Room).cells ({ frames := 0, cells := 0, slots := 0, locals := 0 } : Room).slots
  refine hG (S := s₁.setTop (entryFrame mI #[(.long xx), (.long dd)] 4)) (hst (fun t_ kt_ => castTop (ef_sh mI xx dd) kt_) ?_)
  show G (s₁.setTop (mkF mI 0 #[.val (.long xx), .second, .val (.long dd), .second] []))
  refine o_lloadN hst X0.here hx (hb hby dsh_0) (pc' := 1) rfl rfl ?_
  refine o_lconst hst X0.here hx (hb hby dsh_1) (pc' := 2) rfl (z := (0 : Int64)) rfl ?_
  refine o_lcmp hst X0.here hx (hb hby dsh_2) (pc' := 3) rfl ?_
  by_cases h1 : dd < (0 : Int64)
  ·
    refine hst (fun _ kt => XS.ifYes X0.here hx rfl (pc0 := 3) (pc' := 26) rfl (hb hby dsh_3) rfl ((if0 _ _).trans (tlt ((lw_lt _ _).mpr h1)).1) (by decide) (by decide) kt) ?_
    show G (s₁.setTop (mkF mI 26 #[.val (.long xx), .second, .val (.long dd), .second] []))
    refine o_lloadN hst X0.here hx (hb hby dsh_26) (pc' := 27) rfl rfl ?_
    refine hst (X0.ldc2Long hx hown (mvT hZ (own_w11 hw)) (g := (mkF mI 27 #[.val (.long xx), .second, .val (.long dd), .second] [(.long xx)])) rfl (hb hby dsh_27)) ?_
    show G (s₁.setTop (mkF mI 30 #[.val (.long xx), .second, .val (.long dd), .second] [(.long (-9223372036854775808 : Int64)), (.long xx)]))
    refine o_lloadN hst X0.here hx (hb hby dsh_30) (pc' := 31) rfl rfl ?_
    refine o_lsub hst X0.here hx (hb hby dsh_31) (pc' := 32) rfl ?_
    refine o_lcmp hst X0.here hx (hb hby dsh_32) (pc' := 33) rfl ?_
    by_cases h2 : xx < ((-9223372036854775808 : Int64) - dd)
    ·
      refine hst (fun _ kt => XS.ifNo X0.here hx rfl (hb hby dsh_33) rfl ((if0 _ _).trans (tlt ((lw_lt _ _).mpr h2)).2.1) kt) ?_
      show G (s₁.setTop (mkF mI 36 #[.val (.long xx), .second, .val (.long dd), .second] []))
      refine hst (X0.ldc2Long hx hown (mvT hZ (own_w11 hw)) (g := (mkF mI 36 #[.val (.long xx), .second, .val (.long dd), .second] [])) rfl (hb hby dsh_36)) ?_
      show G (s₁.setTop (mkF mI 39 #[.val (.long xx), .second, .val (.long dd), .second] [(.long (-9223372036854775808 : Int64))]))
      refine o_goto hst X0.here hx (hb hby dsh_39) (by decide) (pc' := 45) (by decide) ?_
      exact hend (own_goRet X0 hx Bd.returns rfl (Or.inr (Or.inl ⟨rfl, rfl, _, rfl⟩)) (hb hby dsh_45) Bd.notSynchronized (by rw [e0]; exact ⟨by rw [own_sh, if_pos h1, if_pos h2], N0, rfl⟩) (by decide) (by decide))
    ·
      refine hst (fun _ kt => XS.ifYes X0.here hx rfl (pc0 := 33) (pc' := 42) rfl (hb hby dsh_33) rfl ((if0 _ _).trans (flt (mt (lw_lt _ _).mp h2)).2.1) (by decide) (by decide) kt) ?_
      show G (s₁.setTop (mkF mI 42 #[.val (.long xx), .second, .val (.long dd), .second] []))
      refine o_lloadN hst X0.here hx (hb hby dsh_42) (pc' := 43) rfl rfl ?_
      refine o_lloadN hst X0.here hx (hb hby dsh_43) (pc' := 44) rfl rfl ?_
      refine o_ladd hst X0.here hx (hb hby dsh_44) (pc' := 45) rfl ?_
      exact hend (own_goRet X0 hx Bd.returns rfl (Or.inr (Or.inl ⟨rfl, rfl, _, rfl⟩)) (hb hby dsh_45) Bd.notSynchronized (by rw [e0]; exact ⟨by rw [own_sh, if_pos h1, if_neg h2], N0, rfl⟩) (by decide) (by decide))
  ·
    refine hst (fun _ kt => XS.ifNo X0.here hx rfl (hb hby dsh_3) rfl ((if0 _ _).trans (flt (mt (lw_lt _ _).mp h1)).1) kt) ?_
    show G (s₁.setTop (mkF mI 6 #[.val (.long xx), .second, .val (.long dd), .second] []))
    refine o_lloadN hst X0.here hx (hb hby dsh_6) (pc' := 7) rfl rfl ?_
    refine hst (X0.ldc2Long hx hown (mvT hZ (own_w4 hw)) (g := (mkF mI 7 #[.val (.long xx), .second, .val (.long dd), .second] [(.long xx)])) rfl (hb hby dsh_7)) ?_
    show G (s₁.setTop (mkF mI 10 #[.val (.long xx), .second, .val (.long dd), .second] [(.long (9223372036854775807 : Int64)), (.long xx)]))
    refine o_lloadN hst X0.here hx (hb hby dsh_10) (pc' := 11) rfl rfl ?_
    refine o_lsub hst X0.here hx (hb hby dsh_11) (pc' := 12) rfl ?_
    refine o_lcmp hst X0.here hx (hb hby dsh_12) (pc' := 13) rfl ?_
    by_cases h2 : ((9223372036854775807 : Int64) - dd) < xx
    ·
      refine hst (fun _ kt => XS.ifNo X0.here hx rfl (hb hby dsh_13) rfl ((if0 _ _).trans (tlt ((lw_gt _ _).mpr h2)).2.2.2) kt) ?_
      show G (s₁.setTop (mkF mI 16 #[.val (.long xx), .second, .val (.long dd), .second] []))
      refine hst (X0.ldc2Long hx hown (mvT hZ (own_w4 hw)) (g := (mkF mI 16 #[.val (.long xx), .second, .val (.long dd), .second] [])) rfl (hb hby dsh_16)) ?_
      show G (s₁.setTop (mkF mI 19 #[.val (.long xx), .second, .val (.long dd), .second] [(.long (9223372036854775807 : Int64))]))
      refine o_goto hst X0.here hx (hb hby dsh_19) (by decide) (pc' := 25) (by decide) ?_
      exact hend (own_goRet X0 hx Bd.returns rfl (Or.inr (Or.inl ⟨rfl, rfl, _, rfl⟩)) (hb hby dsh_25) Bd.notSynchronized (by rw [e0]; exact ⟨by rw [own_sh, if_neg h1, if_pos h2], N0, rfl⟩) (by decide) (by decide))
    ·
      refine hst (fun _ kt => XS.ifYes X0.here hx rfl (pc0 := 13) (pc' := 22) rfl (hb hby dsh_13) rfl ((if0 _ _).trans (flt (mt (lw_gt _ _).mp h2)).2.2.2) (by decide) (by decide) kt) ?_
      show G (s₁.setTop (mkF mI 22 #[.val (.long xx), .second, .val (.long dd), .second] []))
      refine o_lloadN hst X0.here hx (hb hby dsh_22) (pc' := 23) rfl rfl ?_
      refine o_lloadN hst X0.here hx (hb hby dsh_23) (pc' := 24) rfl rfl ?_
      refine o_ladd hst X0.here hx (hb hby dsh_24) (pc' := 25) rfl ?_
      exact hend (own_goRet X0 hx Bd.returns rfl (Or.inr (Or.inl ⟨rfl, rfl, _, rfl⟩)) (hb hby dsh_25) Bd.notSynchronized (by rw [e0]; exact ⟨by rw [own_sh, if_neg h1, if_neg h2], N0, rfl⟩) (by decide) (by decide))
theorem dcl_0 : decode method_4_code 0 = .ok (.iload_n 0, 1) := by decide +kernel
theorem dcl_1 : decode method_4_code 1 = .ok (.iload 5, 2) := by decide +kernel
theorem dcl_3 : decode method_4_code 3 = .ok (.if_icmp .eq 5, 3) := by decide +kernel
theorem dcl_6 : decode method_4_code 6 = .ok (.iconst 0, 1) := by decide +kernel
theorem dcl_7 : decode method_4_code 7 = .ok (.ireturn, 1) := by decide +kernel
theorem dcl_8 : decode method_4_code 8 = .ok (.lload_n 1, 1) := by decide +kernel
theorem dcl_9 : decode method_4_code 9 = .ok (.lload 6, 2) := by decide +kernel
theorem dcl_11 : decode method_4_code 11 = .ok (.lcmp, 1) := by decide +kernel
theorem dcl_12 : decode method_4_code 12 = .ok (.ifCond .ne 5, 3) := by decide +kernel
theorem dcl_15 : decode method_4_code 15 = .ok (.iconst 1, 1) := by decide +kernel
theorem dcl_16 : decode method_4_code 16 = .ok (.ireturn, 1) := by decide +kernel
theorem dcl_17 : decode method_4_code 17 = .ok (.lload_n 1, 1) := by decide +kernel
theorem dcl_18 : decode method_4_code 18 = .ok (.lload 8, 2) := by decide +kernel
theorem dcl_20 : decode method_4_code 20 = .ok (.lcmp, 1) := by decide +kernel
theorem dcl_21 : decode method_4_code 21 = .ok (.ifCond .ge 14, 3) := by decide +kernel
theorem dcl_24 : decode method_4_code 24 = .ok (.lload 6, 2) := by decide +kernel
theorem dcl_26 : decode method_4_code 26 = .ok (.lload_n 3, 1) := by decide +kernel
theorem dcl_27 : decode method_4_code 27 = .ok (.lcmp, 1) := by decide +kernel
theorem dcl_28 : decode method_4_code 28 = .ok (.ifCond .ge 7, 3) := by decide +kernel
theorem dcl_31 : decode method_4_code 31 = .ok (.iconst 1, 1) := by decide +kernel
theorem dcl_32 : decode method_4_code 32 = .ok (.goto 4, 3) := by decide +kernel
theorem dcl_35 : decode method_4_code 35 = .ok (.iconst 0, 1) := by decide +kernel
theorem dcl_36 : decode method_4_code 36 = .ok (.ireturn, 1) := by decide +kernel
theorem ef_cl (mI : MethodId) (p1 : Int32) (l1 : Int64) (g1 : Int64) (p2 : Int32) (l2 : Int64) (g2 : Int64) : entryFrame mI #[(.int p1), (.long l1), (.long g1), (.int p2), (.long l2), (.long g2)] 10 = mkF mI 0 #[.val (.int p1), .val (.long l1), .second, .val (.long g1), .second, .val (.int p2), .val (.long l2), .second, .val (.long g2), .second] [] := by first | (simp [entryFrame, mkF, argsToLocals, Value.category]; done) | rfl
theorem pn_cl : plainName x.cls = true := by first | decide +kernel | (simp [plainName, overriddenIn]; done)
set_option maxRecDepth 65536 in
set_option maxHeartbeats 40000000 in
theorem rmcl (lL : Launch) (Z : State) (a0 : Array Value) (hw : ∀ d ∈ tables_1, d.before a0 Z = true) (ws : List Jvm.Cond) (p1 : Int32) (l1 : Int64) (g1 : Int64) (p2 : Int32) (l2 : Int64) (g2 : Int64) (h0 : Heap) (n0 : Nat) (Z0 : n0 ≤ h0.size) :
    MetFree lL (⟨x.cls, "clash", "(IJJIJJ)Z"⟩ : MethodName) (head1 (Jvm.Cond.code (⟨x.cls, "clash", "(IJJIJJ)Z"⟩ : MethodName) method_4_code 10 (some .boolean) :: ws) ({ frames := 0, cells := 0, slots := 0, locals := 0 } : Room)) (fun a_ U_ => a_ = #[(.int p1), (.long l1), (.long g1), (.int p2), (.long l2), (.long g2)] ∧ Z.Warmed39 U_.vm ∧ U_.heap = h0) (fun _ _ _ _ _ => True) (fun _ U_ o_ W_ => ∃ v_ L_, o_ = .returned v_ ∧ own_QI (own_cl p1 l1 g1 p2 l2 g2) h0 n0 v_ W_.heap L_ ∧ FrameEnd U_ o_ W_ L_ ({ frames := 0, cells := 0, slots := 0, locals := 0 } : Room).cells ({ frames := 0, cells := 0, slots := 0, locals := 0 } : Room).slots) := by
  refine MetFree.of_bodySF (plainFor_of_name pn_cl) hisR ?_
  intro pP eE sS mI args below meth cC s₁ Bd hml0 hP hK
  obtain ⟨rfl, hZ, hh⟩ := hP
  have hx := Bd.exec
  have hby := Bd.bytes
  have hml : cC.maxLocals = 10 := hml0
  have hown : sS.vm.findClass x.cls = some mI.cls := by have z := findClass_of_methodNamed Bd.named; exact z
  have hnm := (name_of_methodNamed Bd.named Bd.method).1
  have X0 : Stand pP lL eE ({ frames := 0, cells := 0, slots := 0, locals := 0 } : Room) sS mI #[(.int p1), (.long l1), (.long g1), (.int p2), (.long l2), (.long g2)] below meth cC s₁ [] 0 0 := Stand.of_body Bd
  have e0 : s₁.heap = h0 := by rw [← hh, Bd.state]; rfl
  have N0 := Fr.nil n0
  obtain ⟨G, hG, hst, hend⟩ := own_abs pP eE below sS (own_QI (own_cl p1 l1 g1 p2 l2 g2) h0 n0) ({ frames := 0, cells := 0, slots := 0, locals := 0 } : Room).cells ({ frames := 0, cells := 0, slots := 0, locals := 0 } : Room).slots
  refine hG (S := s₁.setTop (entryFrame mI #[(.int p1), (.long l1), (.long g1), (.int p2), (.long l2), (.long g2)] 10)) (hst (fun t_ kt_ => castTop (ef_cl mI p1 l1 g1 p2 l2 g2) kt_) ?_)
  show G (s₁.setTop (mkF mI 0 #[.val (.int p1), .val (.long l1), .second, .val (.long g1), .second, .val (.int p2), .val (.long l2), .second, .val (.long g2), .second] []))
  refine o_iloadN hst X0.here hx (hb hby dcl_0) (pc' := 1) rfl rfl ?_
  refine o_iload hst X0.here hx (hb hby dcl_1) (pc' := 3) rfl rfl ?_
  by_cases h1 : p1 = p2
  ·
    refine hst (fun _ kt => XS.icmpYes X0.here hx rfl (pc0 := 3) (pc' := 8) rfl (hb hby dcl_3) rfl (teq h1).1 (by decide) (by decide) kt) ?_
    show G (s₁.setTop (mkF mI 8 #[.val (.int p1), .val (.long l1), .second, .val (.long g1), .second, .val (.int p2), .val (.long l2), .second, .val (.long g2), .second] []))
    refine o_lloadN hst X0.here hx (hb hby dcl_8) (pc' := 9) rfl rfl ?_
    refine o_lload hst X0.here hx (hb hby dcl_9) (pc' := 11) rfl rfl ?_
    refine o_lcmp hst X0.here hx (hb hby dcl_11) (pc' := 12) rfl ?_
    by_cases h2 : l1 = l2
    ·
      refine hst (fun _ kt => XS.ifNo X0.here hx rfl (hb hby dcl_12) rfl ((if0 _ _).trans (teq ((lw_eq _ _).mpr h2)).2) kt) ?_
      show G (s₁.setTop (mkF mI 15 #[.val (.int p1), .val (.long l1), .second, .val (.long g1), .second, .val (.int p2), .val (.long l2), .second, .val (.long g2), .second] []))
      refine o_iconst hst X0.here hx (hb hby dcl_15) (pc' := 16) rfl (z := (1 : Int32)) rfl ?_
      exact hend (own_goRet X0 hx Bd.returns rfl (Or.inl ⟨rfl, by simp, _, rfl⟩) (hb hby dcl_16) Bd.notSynchronized (by rw [e0]; exact ⟨by rw [own_cl, if_pos h1, if_pos h2], N0, rfl⟩) (by decide) (by decide))
    ·
      refine hst (fun _ kt => XS.ifYes X0.here hx rfl (pc0 := 12) (pc' := 17) rfl (hb hby dcl_12) rfl ((if0 _ _).trans (feq (mt (lw_eq _ _).mp h2)).2) (by decide) (by decide) kt) ?_
      show G (s₁.setTop (mkF mI 17 #[.val (.int p1), .val (.long l1), .second, .val (.long g1), .second, .val (.int p2), .val (.long l2), .second, .val (.long g2), .second] []))
      refine o_lloadN hst X0.here hx (hb hby dcl_17) (pc' := 18) rfl rfl ?_
      refine o_lload hst X0.here hx (hb hby dcl_18) (pc' := 20) rfl rfl ?_
      refine o_lcmp hst X0.here hx (hb hby dcl_20) (pc' := 21) rfl ?_
      by_cases h3 : l1 < g2
      ·
        refine hst (fun _ kt => XS.ifNo X0.here hx rfl (hb hby dcl_21) rfl ((if0 _ _).trans (tlt ((lw_lt _ _).mpr h3)).2.1) kt) ?_
        show G (s₁.setTop (mkF mI 24 #[.val (.int p1), .val (.long l1), .second, .val (.long g1), .second, .val (.int p2), .val (.long l2), .second, .val (.long g2), .second] []))
        refine o_lload hst X0.here hx (hb hby dcl_24) (pc' := 26) rfl rfl ?_
        refine o_lloadN hst X0.here hx (hb hby dcl_26) (pc' := 27) rfl rfl ?_
        refine o_lcmp hst X0.here hx (hb hby dcl_27) (pc' := 28) rfl ?_
        by_cases h4 : l2 < g1
        ·
          refine hst (fun _ kt => XS.ifNo X0.here hx rfl (hb hby dcl_28) rfl ((if0 _ _).trans (tlt ((lw_lt _ _).mpr h4)).2.1) kt) ?_
          show G (s₁.setTop (mkF mI 31 #[.val (.int p1), .val (.long l1), .second, .val (.long g1), .second, .val (.int p2), .val (.long l2), .second, .val (.long g2), .second] []))
          refine o_iconst hst X0.here hx (hb hby dcl_31) (pc' := 32) rfl (z := (1 : Int32)) rfl ?_
          refine o_goto hst X0.here hx (hb hby dcl_32) (by decide) (pc' := 36) (by decide) ?_
          exact hend (own_goRet X0 hx Bd.returns rfl (Or.inl ⟨rfl, by simp, _, rfl⟩) (hb hby dcl_36) Bd.notSynchronized (by rw [e0]; exact ⟨by rw [own_cl, if_pos h1, if_neg h2, if_pos h3, if_pos h4], N0, rfl⟩) (by decide) (by decide))
        ·
          refine hst (fun _ kt => XS.ifYes X0.here hx rfl (pc0 := 28) (pc' := 35) rfl (hb hby dcl_28) rfl ((if0 _ _).trans (flt (mt (lw_lt _ _).mp h4)).2.1) (by decide) (by decide) kt) ?_
          show G (s₁.setTop (mkF mI 35 #[.val (.int p1), .val (.long l1), .second, .val (.long g1), .second, .val (.int p2), .val (.long l2), .second, .val (.long g2), .second] []))
          refine o_iconst hst X0.here hx (hb hby dcl_35) (pc' := 36) rfl (z := (0 : Int32)) rfl ?_
          exact hend (own_goRet X0 hx Bd.returns rfl (Or.inl ⟨rfl, by simp, _, rfl⟩) (hb hby dcl_36) Bd.notSynchronized (by rw [e0]; exact ⟨by rw [own_cl, if_pos h1, if_neg h2, if_pos h3, if_neg h4], N0, rfl⟩) (by decide) (by decide))
      ·
        refine hst (fun _ kt => XS.ifYes X0.here hx rfl (pc0 := 21) (pc' := 35) rfl (hb hby dcl_21) rfl ((if0 _ _).trans (flt (mt (lw_lt _ _).mp h3)).2.1) (by decide) (by decide) kt) ?_
        show G (s₁.setTop (mkF mI 35 #[.val (.int p1), .val (.long l1), .second, .val (.long g1), .second, .val (.int p2), .val (.long l2), .second, .val (.long g2), .second] []))
        refine o_iconst hst X0.here hx (hb hby dcl_35) (pc' := 36) rfl (z := (0 : Int32)) rfl ?_
        exact hend (own_goRet X0 hx Bd.returns rfl (Or.inl ⟨rfl, by simp, _, rfl⟩) (hb hby dcl_36) Bd.notSynchronized (by rw [e0]; exact ⟨by rw [own_cl, if_pos h1, if_neg h2, if_neg h3], N0, rfl⟩) (by decide) (by decide))
  ·
    refine hst (fun _ kt => XS.icmpNo X0.here hx rfl (hb hby dcl_3) rfl (feq h1).1 kt) ?_
    show G (s₁.setTop (mkF mI 6 #[.val (.int p1), .val (.long l1), .second, .val (.long g1), .second, .val (.int p2), .val (.long l2), .second, .val (.long g2), .second] []))
    refine o_iconst hst X0.here hx (hb hby dcl_6) (pc' := 7) rfl (z := (0 : Int32)) rfl ?_
    exact hend (own_goRet X0 hx Bd.returns rfl (Or.inl ⟨rfl, by simp, _, rfl⟩) (hb hby dcl_7) Bd.notSynchronized (by rw [e0]; exact ⟨by rw [own_cl, if_neg h1], N0, rfl⟩) (by decide) (by decide))
theorem dho_0 : decode method_5_code 0 = .ok (.iload_n 0, 1) := by decide +kernel
theorem dho_1 : decode method_5_code 1 = .ok (.iload 5, 2) := by decide +kernel
theorem dho_3 : decode method_5_code 3 = .ok (.if_icmp .ne 21, 3) := by decide +kernel
theorem dho_6 : decode method_5_code 6 = .ok (.lload_n 1, 1) := by decide +kernel
theorem dho_7 : decode method_5_code 7 = .ok (.lload 6, 2) := by decide +kernel
theorem dho_9 : decode method_5_code 9 = .ok (.lcmp, 1) := by decide +kernel
theorem dho_10 : decode method_5_code 10 = .ok (.ifCond .gt 14, 3) := by decide +kernel
theorem dho_13 : decode method_5_code 13 = .ok (.lload 6, 2) := by decide +kernel
theorem dho_15 : decode method_5_code 15 = .ok (.lload_n 3, 1) := by decide +kernel
theorem dho_16 : decode method_5_code 16 = .ok (.lcmp, 1) := by decide +kernel
theorem dho_17 : decode method_5_code 17 = .ok (.ifCond .ge 7, 3) := by decide +kernel
theorem dho_20 : decode method_5_code 20 = .ok (.iconst 1, 1) := by decide +kernel
theorem dho_21 : decode method_5_code 21 = .ok (.goto 4, 3) := by decide +kernel
theorem dho_24 : decode method_5_code 24 = .ok (.iconst 0, 1) := by decide +kernel
theorem dho_25 : decode method_5_code 25 = .ok (.ireturn, 1) := by decide +kernel
theorem ef_ho (mI : MethodId) (p1 : Int32) (l1 : Int64) (g1 : Int64) (qq : Int32) (rr : Int64) : entryFrame mI #[(.int p1), (.long l1), (.long g1), (.int qq), (.long rr)] 8 = mkF mI 0 #[.val (.int p1), .val (.long l1), .second, .val (.long g1), .second, .val (.int qq), .val (.long rr), .second] [] := by first | (simp [entryFrame, mkF, argsToLocals, Value.category]; done) | rfl
theorem pn_ho : plainName x.cls = true := by first | decide +kernel | (simp [plainName, overriddenIn]; done)
set_option maxRecDepth 65536 in
set_option maxHeartbeats 40000000 in
theorem rmho (lL : Launch) (Z : State) (a0 : Array Value) (hw : ∀ d ∈ tables_1, d.before a0 Z = true) (ws : List Jvm.Cond) (p1 : Int32) (l1 : Int64) (g1 : Int64) (qq : Int32) (rr : Int64) (h0 : Heap) (n0 : Nat) (Z0 : n0 ≤ h0.size) :
    MetFree lL (⟨x.cls, "holds", "(IJJIJ)Z"⟩ : MethodName) (head1 (Jvm.Cond.code (⟨x.cls, "holds", "(IJJIJ)Z"⟩ : MethodName) method_5_code 8 (some .boolean) :: ws) ({ frames := 0, cells := 0, slots := 0, locals := 0 } : Room)) (fun a_ U_ => a_ = #[(.int p1), (.long l1), (.long g1), (.int qq), (.long rr)] ∧ Z.Warmed39 U_.vm ∧ U_.heap = h0) (fun _ _ _ _ _ => True) (fun _ U_ o_ W_ => ∃ v_ L_, o_ = .returned v_ ∧ own_QI (own_ho p1 l1 g1 qq rr) h0 n0 v_ W_.heap L_ ∧ FrameEnd U_ o_ W_ L_ ({ frames := 0, cells := 0, slots := 0, locals := 0 } : Room).cells ({ frames := 0, cells := 0, slots := 0, locals := 0 } : Room).slots) := by
  refine MetFree.of_bodySF (plainFor_of_name pn_ho) hisR ?_
  intro pP eE sS mI args below meth cC s₁ Bd hml0 hP hK
  obtain ⟨rfl, hZ, hh⟩ := hP
  have hx := Bd.exec
  have hby := Bd.bytes
  have hml : cC.maxLocals = 8 := hml0
  have hown : sS.vm.findClass x.cls = some mI.cls := by have z := findClass_of_methodNamed Bd.named; exact z
  have hnm := (name_of_methodNamed Bd.named Bd.method).1
  have X0 : Stand pP lL eE ({ frames := 0, cells := 0, slots := 0, locals := 0 } : Room) sS mI #[(.int p1), (.long l1), (.long g1), (.int qq), (.long rr)] below meth cC s₁ [] 0 0 := Stand.of_body Bd
  have e0 : s₁.heap = h0 := by rw [← hh, Bd.state]; rfl
  have N0 := Fr.nil n0
  obtain ⟨G, hG, hst, hend⟩ := own_abs pP eE below sS (own_QI (own_ho p1 l1 g1 qq rr) h0 n0) ({ frames := 0, cells := 0, slots := 0, locals := 0 } : Room).cells ({ frames := 0, cells := 0, slots := 0, locals := 0 } : Room).slots
  refine hG (S := s₁.setTop (entryFrame mI #[(.int p1), (.long l1), (.long g1), (.int qq), (.long rr)] 8)) (hst (fun t_ kt_ => castTop (ef_ho mI p1 l1 g1 qq rr) kt_) ?_)
  show G (s₁.setTop (mkF mI 0 #[.val (.int p1), .val (.long l1), .second, .val (.long g1), .second, .val (.int qq), .val (.long rr), .second] []))
  refine o_iloadN hst X0.here hx (hb hby dho_0) (pc' := 1) rfl rfl ?_
  refine o_iload hst X0.here hx (hb hby dho_1) (pc' := 3) rfl rfl ?_
  by_cases h1 : p1 = qq
  ·
    refine hst (fun _ kt => XS.icmpNo X0.here hx rfl (hb hby dho_3) rfl (teq h1).2 kt) ?_
    show G (s₁.setTop (mkF mI 6 #[.val (.int p1), .val (.long l1), .second, .val (.long g1), .second, .val (.int qq), .val (.long rr), .second] []))
    refine o_lloadN hst X0.here hx (hb hby dho_6) (pc' := 7) rfl rfl ?_
    refine o_lload hst X0.here hx (hb hby dho_7) (pc' := 9) rfl rfl ?_
    refine o_lcmp hst X0.here hx (hb hby dho_9) (pc' := 10) rfl ?_
    by_cases h2 : rr < l1
    ·
      refine hst (fun _ kt => XS.ifYes X0.here hx rfl (pc0 := 10) (pc' := 24) rfl (hb hby dho_10) rfl ((if0 _ _).trans (tlt ((lw_gt _ _).mpr h2)).2.2.1) (by decide) (by decide) kt) ?_
      show G (s₁.setTop (mkF mI 24 #[.val (.int p1), .val (.long l1), .second, .val (.long g1), .second, .val (.int qq), .val (.long rr), .second] []))
      refine o_iconst hst X0.here hx (hb hby dho_24) (pc' := 25) rfl (z := (0 : Int32)) rfl ?_
      exact hend (own_goRet X0 hx Bd.returns rfl (Or.inl ⟨rfl, by simp, _, rfl⟩) (hb hby dho_25) Bd.notSynchronized (by rw [e0]; exact ⟨by rw [own_ho, if_pos h1, if_pos h2], N0, rfl⟩) (by decide) (by decide))
    ·
      refine hst (fun _ kt => XS.ifNo X0.here hx rfl (hb hby dho_10) rfl ((if0 _ _).trans (flt (mt (lw_gt _ _).mp h2)).2.2.1) kt) ?_
      show G (s₁.setTop (mkF mI 13 #[.val (.int p1), .val (.long l1), .second, .val (.long g1), .second, .val (.int qq), .val (.long rr), .second] []))
      refine o_lload hst X0.here hx (hb hby dho_13) (pc' := 15) rfl rfl ?_
      refine o_lloadN hst X0.here hx (hb hby dho_15) (pc' := 16) rfl rfl ?_
      refine o_lcmp hst X0.here hx (hb hby dho_16) (pc' := 17) rfl ?_
      by_cases h3 : rr < g1
      ·
        refine hst (fun _ kt => XS.ifNo X0.here hx rfl (hb hby dho_17) rfl ((if0 _ _).trans (tlt ((lw_lt _ _).mpr h3)).2.1) kt) ?_
        show G (s₁.setTop (mkF mI 20 #[.val (.int p1), .val (.long l1), .second, .val (.long g1), .second, .val (.int qq), .val (.long rr), .second] []))
        refine o_iconst hst X0.here hx (hb hby dho_20) (pc' := 21) rfl (z := (1 : Int32)) rfl ?_
        refine o_goto hst X0.here hx (hb hby dho_21) (by decide) (pc' := 25) (by decide) ?_
        exact hend (own_goRet X0 hx Bd.returns rfl (Or.inl ⟨rfl, by simp, _, rfl⟩) (hb hby dho_25) Bd.notSynchronized (by rw [e0]; exact ⟨by rw [own_ho, if_pos h1, if_neg h2, if_pos h3], N0, rfl⟩) (by decide) (by decide))
      ·
        refine hst (fun _ kt => XS.ifYes X0.here hx rfl (pc0 := 17) (pc' := 24) rfl (hb hby dho_17) rfl ((if0 _ _).trans (flt (mt (lw_lt _ _).mp h3)).2.1) (by decide) (by decide) kt) ?_
        show G (s₁.setTop (mkF mI 24 #[.val (.int p1), .val (.long l1), .second, .val (.long g1), .second, .val (.int qq), .val (.long rr), .second] []))
        refine o_iconst hst X0.here hx (hb hby dho_24) (pc' := 25) rfl (z := (0 : Int32)) rfl ?_
        exact hend (own_goRet X0 hx Bd.returns rfl (Or.inl ⟨rfl, by simp, _, rfl⟩) (hb hby dho_25) Bd.notSynchronized (by rw [e0]; exact ⟨by rw [own_ho, if_pos h1, if_neg h2, if_neg h3], N0, rfl⟩) (by decide) (by decide))
  ·
    refine hst (fun _ kt => XS.icmpYes X0.here hx rfl (pc0 := 3) (pc' := 24) rfl (hb hby dho_3) rfl (feq h1).2 (by decide) (by decide) kt) ?_
    show G (s₁.setTop (mkF mI 24 #[.val (.int p1), .val (.long l1), .second, .val (.long g1), .second, .val (.int qq), .val (.long rr), .second] []))
    refine o_iconst hst X0.here hx (hb hby dho_24) (pc' := 25) rfl (z := (0 : Int32)) rfl ?_
    exact hend (own_goRet X0 hx Bd.returns rfl (Or.inl ⟨rfl, by simp, _, rfl⟩) (hb hby dho_25) Bd.notSynchronized (by rw [e0]; exact ⟨by rw [own_ho, if_neg h1], N0, rfl⟩) (by decide) (by decide))
theorem dAM_0 : decode jdk_71_method_1_code 0 = .ok (.aload_n 0, 1) := by decide +kernel
theorem dAM_1 : decode jdk_71_method_1_code 1 = .ok (.invokespecial 1, 3) := by decide +kernel
theorem dAM_4 : decode jdk_71_method_1_code 4 = .ok (.return_, 1) := by decide +kernel
theorem ef_AM (mI : MethodId) (a : Addr) : entryFrame mI #[(.ref a)] 1 = mkF mI 0 #[.val (.ref a)] [] := by first | (simp [entryFrame, mkF, argsToLocals, Value.category]; done) | rfl
theorem pn_AM : plainName "java/util/AbstractMap" = true := by first | decide +kernel | (simp [plainName, overriddenIn]; done)
set_option maxRecDepth 65536 in
set_option maxHeartbeats 40000000 in
theorem rmAM (lL : Launch) (Z : State) (a0 : Array Value) (hw : ∀ d ∈ tables_1, d.before a0 Z = true) (ws : List Jvm.Cond) (a : Addr) (h0 : Heap) (n0 : Nat) (Z0 : n0 ≤ h0.size) :
    MetFree lL (⟨"java/util/AbstractMap", "<init>", "()V"⟩ : MethodName) (head1 (Jvm.Cond.code (⟨"java/util/AbstractMap", "<init>", "()V"⟩ : MethodName) jdk_71_method_1_code 1 none :: ws) ({ frames := 1, cells := 0, slots := 0, locals := 12 } : Room)) (fun a_ U_ => a_ = #[(.ref a)] ∧ Z.Warmed39 U_.vm ∧ U_.heap = h0) (fun _ _ _ _ _ => True) (fun _ U_ o_ W_ => ∃ v_ L_, o_ = .returned v_ ∧ own_QV h0 n0 v_ W_.heap L_ ∧ FrameEnd U_ o_ W_ L_ ({ frames := 1, cells := 0, slots := 0, locals := 12 } : Room).cells ({ frames := 1, cells := 0, slots := 0, locals := 12 } : Room).slots) := by
  refine MetFree.of_bodySF (plainFor_of_name pn_AM) hisR ?_
  intro pP eE sS mI args below meth cC s₁ Bd hml0 hP hK
  obtain ⟨rfl, hZ, hh⟩ := hP
  have hx := Bd.exec
  have hby := Bd.bytes
  have hml : cC.maxLocals = 1 := hml0
  have hown : sS.vm.findClass "java/util/AbstractMap" = some mI.cls := by have z := findClass_of_methodNamed Bd.named; exact z
  have hnm := (name_of_methodNamed Bd.named Bd.method).1
  have X0 : Stand pP lL eE ({ frames := 1, cells := 0, slots := 0, locals := 12 } : Room) sS mI #[(.ref a)] below meth cC s₁ [] 0 0 := Stand.of_body Bd
  have e0 : s₁.heap = h0 := by rw [← hh, Bd.state]; rfl
  have N0 := Fr.nil n0
  obtain ⟨G, hG, hst, hend⟩ := own_abs pP eE below sS (own_QV h0 n0) ({ frames := 1, cells := 0, slots := 0, locals := 12 } : Room).cells ({ frames := 1, cells := 0, slots := 0, locals := 12 } : Room).slots
  refine hG (S := s₁.setTop (entryFrame mI #[(.ref a)] 1)) (hst (fun t_ kt_ => castTop (ef_AM mI a) kt_) ?_)
  show G (s₁.setTop (mkF mI 0 #[.val (.ref a)] []))
  refine o_aloadN hst X0.here hx (hb hby dAM_0) (pc' := 1) rfl rfl rfl ?_
  obtain ⟨T_1, X_1, e_1, st_1⟩ := initO X0 hx hZ hown (own_w34 hw) (own_w20 hw) (own_w21 hw) e0 (g := (mkF mI 1 #[.val (.ref a)] [(.ref a)])) rfl (by rw [hml]; rfl) rfl (hb hby dAM_1) (by decide) (W := 0) (by show 2 * 0 + _ ≤ _; exact Nat.le_of_eq rfl) (by decide)
  refine hst st_1 ?_
  show G (T_1.setTop (mkF mI 4 #[.val (.ref a)] []))
  exact hend (own_goVoid X_1 hx Bd.returns (hb hby dAM_4) Bd.notSynchronized (by rw [e_1]; exact ⟨rfl, N0, rfl⟩) (by decide) (by decide))
theorem dh0_0 : decode jdk_69_method_7_code 0 = .ok (.aload_n 0, 1) := by decide +kernel
theorem dh0_1 : decode jdk_69_method_7_code 1 = .ok (.invokespecial 43, 3) := by decide +kernel
theorem dh0_4 : decode jdk_69_method_7_code 4 = .ok (.aload_n 0, 1) := by decide +kernel
theorem dh0_5 : decode jdk_69_method_7_code 5 = .ok (.ldc 92, 2) := by decide +kernel
theorem dh0_7 : decode jdk_69_method_7_code 7 = .ok (.putfield 81, 3) := by decide +kernel
theorem dh0_10 : decode jdk_69_method_7_code 10 = .ok (.return_, 1) := by decide +kernel
theorem ef_h0 (mI : MethodId) (a : Addr) : entryFrame mI #[(.ref a)] 1 = mkF mI 0 #[.val (.ref a)] [] := by first | (simp [entryFrame, mkF, argsToLocals, Value.category]; done) | rfl
theorem pn_h0 : plainName "java/util/HashMap" = true := by first | decide +kernel | (simp [plainName, overriddenIn]; done)
set_option maxRecDepth 65536 in
set_option maxHeartbeats 40000000 in
theorem rmh0 (lL : Launch) (Z : State) (a0 : Array Value) (hw : ∀ d ∈ tables_1, d.before a0 Z = true) (ws : List Jvm.Cond) (a : Addr) (h0 : Heap) (n0 : Nat) (Z0 : n0 ≤ h0.size) (F_loadFactor_a : Fld Z h0 a "java/util/HashMap" "loadFactor" "F" (defaultValue .float)) (E_a : Exa Z h0 a "java/util/HashMap") (le_n0_a : n0 ≤ a) :
    MetFree lL (⟨"java/util/HashMap", "<init>", "()V"⟩ : MethodName) (head1 (Jvm.Cond.code (⟨"java/util/HashMap", "<init>", "()V"⟩ : MethodName) jdk_69_method_7_code 1 none :: ws) ({ frames := 2, cells := 0, slots := 0, locals := 24 } : Room)) (fun a_ U_ => a_ = #[(.ref a)] ∧ Z.Warmed39 U_.vm ∧ U_.heap = h0) (fun _ _ _ _ _ => True) (fun _ U_ o_ W_ => ∃ v_ L_, o_ = .returned v_ ∧ own_QK [a] h0 n0 v_ W_.heap L_ ∧ FrameEnd U_ o_ W_ L_ ({ frames := 2, cells := 0, slots := 0, locals := 24 } : Room).cells ({ frames := 2, cells := 0, slots := 0, locals := 24 } : Room).slots) := by
  refine MetFree.of_bodySF (plainFor_of_name pn_h0) hisR ?_
  intro pP eE sS mI args below meth cC s₁ Bd hml0 hP hK
  obtain ⟨rfl, hZ, hh⟩ := hP
  have hx := Bd.exec
  have hby := Bd.bytes
  have hml : cC.maxLocals = 1 := hml0
  have hown : sS.vm.findClass "java/util/HashMap" = some mI.cls := by have z := findClass_of_methodNamed Bd.named; exact z
  have hnm := (name_of_methodNamed Bd.named Bd.method).1
  have X0 : Stand pP lL eE ({ frames := 2, cells := 0, slots := 0, locals := 24 } : Room) sS mI #[(.ref a)] below meth cC s₁ [] 0 0 := Stand.of_body Bd
  have e0 : s₁.heap = h0 := by rw [← hh, Bd.state]; rfl
  have N0 := Fr.nil n0
  obtain ⟨G, hG, hst, hend⟩ := own_abs pP eE below sS (own_QK [a] h0 n0) ({ frames := 2, cells := 0, slots := 0, locals := 24 } : Room).cells ({ frames := 2, cells := 0, slots := 0, locals := 24 } : Room).slots
  refine hG (S := s₁.setTop (entryFrame mI #[(.ref a)] 1)) (hst (fun t_ kt_ => castTop (ef_h0 mI a) kt_) ?_)
  have Z1 := Nat.le_refl h0.size
  have K0 := Keep.refl h0 [a]
  show G (s₁.setTop (mkF mI 0 #[.val (.ref a)] []))
  refine o_aloadN hst X0.here hx (hb hby dh0_0) (pc' := 1) rfl rfl rfl ?_
  obtain ⟨_, _, ⟨T_1, L_1, k_1, n_1⟩, -, X_1, ⟨Lc_1, hQ_1, l_1, y_1, z_1⟩, st_1⟩ := X0.specialBack hx (y := (⟨"java/util/AbstractMap", "<init>", "()V"⟩ : MethodName)) rfl hown (mvT hZ (own_w28 hw)) (mvT hZ (own_w29 hw)) (mvT hZ (own_w33 hw)) (by decide) (backOf (W := 0) (rmAM lL Z a0 hw [] a  h0 n0 Z0) hZ (own_w33 hw) (own_w32 hw) (by decide) (by decide)) (g := (mkF mI 1 #[.val (.ref a)] [(.ref a)])) rfl (by rw [hml]; rfl) (Steps.refl _) (a := a) (argsL := []) (rest := []) (lenOf pd_0 rfl) rfl (by show 2 * 0 + _ ≤ _; exact Nat.le_of_eq rfl) (hb hby dh0_1) (fun _ _ => ⟨rfl, e0, (by decide : 0 + 0 ≤ _), (by decide : 0 + 0 ≤ _)⟩)
  dsimp only [Pt.U, Pt.locs, Pt.cells, Pt.slots] at X_1 l_1 y_1 z_1 st_1 hQ_1
  subst l_1 y_1 z_1
  obtain ⟨rfl, N_1q, eh_1⟩ := hQ_1
  have N_1 := Fr.app N0 N_1q
  refine hst (fun _ kt => st_1.trans kt) ?_
  show G (T_1.setTop (mkF mI 4 #[.val (.ref a)] []))
  refine o_aloadN hst X_1.here hx (hb hby dh0_4) (pc' := 5) rfl rfl rfl ?_
  refine hst (X_1.ldcFloatC hx hown (mvT hZ (own_w35 hw)) (g := (mkF mI 5 #[.val (.ref a)] [(.ref a)])) rfl (hb hby dh0_5)) ?_
  show G (T_1.setTop (mkF mI 7 #[.val (.ref a)] [(.float (1061158912 : UInt32)), (.ref a)]))
  obtain ⟨T_2, h_2, X_2, e_2, W_2, st_2⟩ := putF X_1 hx hZ hown (host := "") (Or.inl (own_w36 hw)) Via.refl eh_1 F_loadFactor_a E_a (Or.inr ⟨(own_w37 hw), rfl, hnm⟩) (own_w23 hw) (ty := .float) (by decide) rfl rfl (g := (mkF mI 7 #[.val (.ref a)] [(.float (1061158912 : UInt32)), (.ref a)])) rfl rfl (hb hby dh0_7)
  have Z0 := Nat.le_trans Z0 (Keep.of_wr W_2).1
  have Z1 := Nat.le_trans Z1 (Keep.of_wr W_2).1
  have K0 := K0.wr W_2 (Or.inl (List.mem_of_getElem? (i := 0) rfl))
  have F_loadFactor_a := F_loadFactor_a.same W_2
  have E_a := E_a.wr W_2
  have N_2 := Fr.snoc X_2 N_1 le_n0_a
  refine hst st_2 ?_
  show G (T_2.setTop (mkF mI 10 #[.val (.ref a)] []))
  exact hend (own_goVoid X_2 hx Bd.returns (hb hby dh0_10) Bd.notSynchronized (by rw [e_2]; exact ⟨rfl, N_2, K0⟩) (by decide) (by decide))
theorem dfi_0 : decode jdk_65_method_103_code 0 = .ok (.iconst 0, 1) := by decide +kernel
theorem dfi_1 : decode jdk_65_method_103_code 1 = .ok (.istore_n 2, 1) := by decide +kernel
theorem dfi_2 : decode jdk_65_method_103_code 2 = .ok (.aload_n 0, 1) := by decide +kernel
theorem dfi_3 : decode jdk_65_method_103_code 3 = .ok (.arraylength, 1) := by decide +kernel
theorem dfi_4 : decode jdk_65_method_103_code 4 = .ok (.istore_n 3, 1) := by decide +kernel
theorem dfi_5 : decode jdk_65_method_103_code 5 = .ok (.iload_n 2, 1) := by decide +kernel
theorem dfi_6 : decode jdk_65_method_103_code 6 = .ok (.iload_n 3, 1) := by decide +kernel
theorem dfi_7 : decode jdk_65_method_103_code 7 = .ok (.if_icmp .ge 13, 3) := by decide +kernel
theorem dfi_10 : decode jdk_65_method_103_code 10 = .ok (.aload_n 0, 1) := by decide +kernel
theorem dfi_11 : decode jdk_65_method_103_code 11 = .ok (.iload_n 2, 1) := by decide +kernel
theorem dfi_12 : decode jdk_65_method_103_code 12 = .ok (.iload_n 1, 1) := by decide +kernel
theorem dfi_13 : decode jdk_65_method_103_code 13 = .ok (.iastore, 1) := by decide +kernel
theorem dfi_14 : decode jdk_65_method_103_code 14 = .ok (.iinc 2 1, 3) := by decide +kernel
theorem dfi_17 : decode jdk_65_method_103_code 17 = .ok (.goto (-12), 3) := by decide +kernel
theorem dfi_20 : decode jdk_65_method_103_code 20 = .ok (.return_, 1) := by decide +kernel
theorem ef_fi (mI : MethodId) (c : Addr) : entryFrame mI #[(.ref c), (.int (-1 : Int32))] 4 = mkF mI 0 #[.val (.ref c), .val (.int (-1 : Int32)), .unset, .unset] [] := by first | (simp [entryFrame, mkF, argsToLocals, Value.category]; done) | rfl
theorem pn_fi : plainName "java/util/Arrays" = true := by first | decide +kernel | (simp [plainName, overriddenIn]; done)
set_option maxRecDepth 65536 in
set_option maxHeartbeats 40000000 in
theorem rmfi (lL : Launch) (Z : State) (a0 : Array Value) (hw : ∀ d ∈ tables_1, d.before a0 Z = true) (ws : List Jvm.Cond) (c : Addr) (k_c : ClassId) (h0 : Heap) (n0 : Nat) (Z0 : n0 ≤ h0.size) (V_c : Arv Z h0 c k_c .int (2 : Int32) [(.int (0 : Int32)), (.int (0 : Int32))] (.int (0 : Int32))) (le_n0_c : n0 ≤ c) :
    MetFree lL (⟨"java/util/Arrays", "fill", "([II)V"⟩ : MethodName) (head1 (Jvm.Cond.code (⟨"java/util/Arrays", "fill", "([II)V"⟩ : MethodName) jdk_65_method_103_code 4 none :: ws) ({ frames := 0, cells := 0, slots := 0, locals := 0 } : Room)) (fun a_ U_ => a_ = #[(.ref c), (.int (-1 : Int32))] ∧ Z.Warmed39 U_.vm ∧ U_.heap = h0) (fun _ _ _ _ _ => True) (fun _ U_ o_ W_ => ∃ v_ L_, o_ = .returned v_ ∧ own_QK [c] h0 n0 v_ W_.heap L_ ∧ FrameEnd U_ o_ W_ L_ ({ frames := 0, cells := 0, slots := 0, locals := 0 } : Room).cells ({ frames := 0, cells := 0, slots := 0, locals := 0 } : Room).slots) := by
  refine MetFree.of_bodySF (plainFor_of_name pn_fi) hisR ?_
  intro pP eE sS mI args below meth cC s₁ Bd hml0 hP hK
  obtain ⟨rfl, hZ, hh⟩ := hP
  have hx := Bd.exec
  have hby := Bd.bytes
  have hml : cC.maxLocals = 4 := hml0
  have hown : sS.vm.findClass "java/util/Arrays" = some mI.cls := by have z := findClass_of_methodNamed Bd.named; exact z
  have hnm := (name_of_methodNamed Bd.named Bd.method).1
  have X0 : Stand pP lL eE ({ frames := 0, cells := 0, slots := 0, locals := 0 } : Room) sS mI #[(.ref c), (.int (-1 : Int32))] below meth cC s₁ [] 0 0 := Stand.of_body Bd
  have e0 : s₁.heap = h0 := by rw [← hh, Bd.state]; rfl
  have N0 := Fr.nil n0
  obtain ⟨G, hG, hst, hend⟩ := own_abs pP eE below sS (own_QK [c] h0 n0) ({ frames := 0, cells := 0, slots := 0, locals := 0 } : Room).cells ({ frames := 0, cells := 0, slots := 0, locals := 0 } : Room).slots
  refine hG (S := s₁.setTop (entryFrame mI #[(.ref c), (.int (-1 : Int32))] 4)) (hst (fun t_ kt_ => castTop (ef_fi mI c) kt_) ?_)
  have Z1 := Nat.le_refl h0.size
  have K0 := Keep.refl h0 [c]
  show G (s₁.setTop (mkF mI 0 #[.val (.ref c), .val (.int (-1 : Int32)), .unset, .unset] []))
  refine o_iconst hst X0.here hx (hb hby dfi_0) (pc' := 1) rfl (z := (0 : Int32)) rfl ?_
  refine o_istoreN hst X0.here hx (hb hby dfi_1) (pc' := 2) rfl (Lt := #[.val (.ref c), .val (.int (-1 : Int32)), .val (.int (0 : Int32)), .unset]) rfl ?_
  refine o_aloadN hst X0.here hx (hb hby dfi_2) (pc' := 3) rfl rfl rfl ?_
  obtain ⟨cl_1, Ar_1, -, S_1, M_1, -, -⟩ := id V_c
  refine hst (X0.arraylength hx (by rw [e0]; exact Ar_1.1) (State.isArrayOf_alike hZ.alike Ar_1.2.1) (g := (mkF mI 3 #[.val (.ref c), .val (.int (-1 : Int32)), .val (.int (0 : Int32)), .unset] [(.ref c)])) rfl rfl (hb hby dfi_3)) ?_
  rw [len_of S_1 M_1]
  show G (s₁.setTop (mkF mI 4 #[.val (.ref c), .val (.int (-1 : Int32)), .val (.int (0 : Int32)), .unset] [(.int (2 : Int32))]))
  refine o_istoreN hst X0.here hx (hb hby dfi_4) (pc' := 5) rfl (Lt := #[.val (.ref c), .val (.int (-1 : Int32)), .val (.int (0 : Int32)), .val (.int (2 : Int32))]) rfl ?_
  refine o_iloadN hst X0.here hx (hb hby dfi_5) (pc' := 6) rfl rfl ?_
  refine o_iloadN hst X0.here hx (hb hby dfi_6) (pc' := 7) rfl rfl ?_
  have hl0 : (0 : Int32) < (2 : Int32) := by decide
  refine hst (fun _ kt => XS.icmpNo X0.here hx rfl (hb hby dfi_7) rfl (tlt hl0).2.1 kt) ?_
  show G (s₁.setTop (mkF mI 10 #[.val (.ref c), .val (.int (-1 : Int32)), .val (.int (0 : Int32)), .val (.int (2 : Int32))] []))
  refine o_aloadN hst X0.here hx (hb hby dfi_10) (pc' := 11) rfl rfl rfl ?_
  refine o_iloadN hst X0.here hx (hb hby dfi_11) (pc' := 12) rfl rfl ?_
  refine o_iloadN hst X0.here hx (hb hby dfi_12) (pc' := 13) rfl rfl ?_
  obtain ⟨cl_2, Ar_2, q_2, S_2, M_2, Hs_2, Gs_2⟩ := V_c
  have hin_2 : ¬ ((0 : Int32) < 0 ∨ cl_2.slots.size ≤ ((0 : Int32)).toNatClampNeg) := inb_of S_2 ⟨by decide, by decide⟩
  obtain ⟨T_2, h_2, X_2, e_2, W_2, st_2⟩ := stI X0 hx hZ e0 Ar_2 (j := (0 : Int32)) hin_2 (g := (mkF mI 13 #[.val (.ref c), .val (.int (-1 : Int32)), .val (.int (0 : Int32)), .val (.int (2 : Int32))] [(.int (-1 : Int32)), (.int (0 : Int32)), (.ref c)])) rfl rfl (hb hby dfi_13)
  have V_c := Arv.set Ar_2 q_2 S_2 M_2 Hs_2 Gs_2 rfl W_2 0 rfl (Nat.le_of_ble_eq_true rfl)
  have V_c : Arv Z h_2 c k_c .int (2 : Int32) [(.int (-1 : Int32)), (.int (0 : Int32))] (.int (0 : Int32)) := V_c
  have Z0 := Nat.le_trans Z0 (Keep.of_wr W_2).1
  have Z1 := Nat.le_trans Z1 (Keep.of_wr W_2).1
  have K0 := K0.wr W_2 (Or.inl (List.mem_of_getElem? (i := 0) rfl))
  have N_2 := Fr.snoc X_2 N0 le_n0_c
  refine hst st_2 ?_
  show G (T_2.setTop (mkF mI 14 #[.val (.ref c), .val (.int (-1 : Int32)), .val (.int (0 : Int32)), .val (.int (2 : Int32))] []))
  refine o_iinc hst X_2.here hx (hb hby dfi_14) (pc' := 17) rfl rfl (Lt := #[.val (.ref c), .val (.int (-1 : Int32)), .val (.int ((0 : Int32) + (1 : Int32))), .val (.int (2 : Int32))]) rfl ?_
  rw [show ((0 : Int32) + (1 : Int32)) = (1 : Int32) from by decide]
  show G (T_2.setTop (mkF mI 17 #[.val (.ref c), .val (.int (-1 : Int32)), .val (.int (1 : Int32)), .val (.int (2 : Int32))] []))
  refine o_goto hst X_2.here hx (hb hby dfi_17) (by decide) (pc' := 5) (by decide) ?_
  refine o_iloadN hst X_2.here hx (hb hby dfi_5) (pc' := 6) rfl rfl ?_
  refine o_iloadN hst X_2.here hx (hb hby dfi_6) (pc' := 7) rfl rfl ?_
  have hl1 : (1 : Int32) < (2 : Int32) := by decide
  refine hst (fun _ kt => XS.icmpNo X_2.here hx rfl (hb hby dfi_7) rfl (tlt hl1).2.1 kt) ?_
  show G (T_2.setTop (mkF mI 10 #[.val (.ref c), .val (.int (-1 : Int32)), .val (.int (1 : Int32)), .val (.int (2 : Int32))] []))
  refine o_aloadN hst X_2.here hx (hb hby dfi_10) (pc' := 11) rfl rfl rfl ?_
  refine o_iloadN hst X_2.here hx (hb hby dfi_11) (pc' := 12) rfl rfl ?_
  refine o_iloadN hst X_2.here hx (hb hby dfi_12) (pc' := 13) rfl rfl ?_
  obtain ⟨cl_3, Ar_3, q_3, S_3, M_3, Hs_3, Gs_3⟩ := V_c
  have hin_3 : ¬ ((1 : Int32) < 0 ∨ cl_3.slots.size ≤ ((1 : Int32)).toNatClampNeg) := inb_of S_3 ⟨by decide, by decide⟩
  obtain ⟨T_3, h_3, X_3, e_3, W_3, st_3⟩ := stI X_2 hx hZ e_2 Ar_3 (j := (1 : Int32)) hin_3 (g := (mkF mI 13 #[.val (.ref c), .val (.int (-1 : Int32)), .val (.int (1 : Int32)), .val (.int (2 : Int32))] [(.int (-1 : Int32)), (.int (1 : Int32)), (.ref c)])) rfl rfl (hb hby dfi_13)
  have V_c := Arv.set Ar_3 q_3 S_3 M_3 Hs_3 Gs_3 rfl W_3 1 rfl (Nat.le_of_ble_eq_true rfl)
  have V_c : Arv Z h_3 c k_c .int (2 : Int32) [(.int (-1 : Int32)), (.int (-1 : Int32))] (.int (0 : Int32)) := V_c
  have Z0 := Nat.le_trans Z0 (Keep.of_wr W_3).1
  have Z1 := Nat.le_trans Z1 (Keep.of_wr W_3).1
  have K0 := K0.wr W_3 (Or.inl (List.mem_of_getElem? (i := 0) rfl))
  have N_3 := Fr.snoc X_3 N_2 le_n0_c
  refine hst st_3 ?_
  show G (T_3.setTop (mkF mI 14 #[.val (.ref c), .val (.int (-1 : Int32)), .val (.int (1 : Int32)), .val (.int (2 : Int32))] []))
  refine o_iinc hst X_3.here hx (hb hby dfi_14) (pc' := 17) rfl rfl (Lt := #[.val (.ref c), .val (.int (-1 : Int32)), .val (.int ((1 : Int32) + (1 : Int32))), .val (.int (2 : Int32))]) rfl ?_
  rw [show ((1 : Int32) + (1 : Int32)) = (2 : Int32) from by decide]
  show G (T_3.setTop (mkF mI 17 #[.val (.ref c), .val (.int (-1 : Int32)), .val (.int (2 : Int32)), .val (.int (2 : Int32))] []))
  refine o_goto hst X_3.here hx (hb hby dfi_17) (by decide) (pc' := 5) (by decide) ?_
  refine o_iloadN hst X_3.here hx (hb hby dfi_5) (pc' := 6) rfl rfl ?_
  refine o_iloadN hst X_3.here hx (hb hby dfi_6) (pc' := 7) rfl rfl ?_
  have hl2 : ¬ ((2 : Int32) < (2 : Int32)) := by decide
  refine hst (fun _ kt => XS.icmpYes X_3.here hx rfl (pc0 := 7) (pc' := 20) rfl (hb hby dfi_7) rfl (flt hl2).2.1 (by decide) (by decide) kt) ?_
  show G (T_3.setTop (mkF mI 20 #[.val (.ref c), .val (.int (-1 : Int32)), .val (.int (2 : Int32)), .val (.int (2 : Int32))] []))
  exact hend (own_goVoid X_3 hx Bd.returns (hb hby dfi_20) Bd.notSynchronized (by rw [e_3]; exact ⟨rfl, N_3, K0⟩) (by decide) (by decide))
theorem drt_0 : decode prog_131_method_1_code 0 = .ok (.aload_n 0, 1) := by decide +kernel
theorem drt_1 : decode prog_131_method_1_code 1 = .ok (.invokespecial 1, 3) := by decide +kernel
theorem drt_4 : decode prog_131_method_1_code 4 = .ok (.iconst 1, 1) := by decide +kernel
theorem drt_5 : decode prog_131_method_1_code 5 = .ok (.istore_n 2, 1) := by decide +kernel
theorem drt_6 : decode prog_131_method_1_code 6 = .ok (.iload_n 2, 1) := by decide +kernel
theorem drt_7 : decode prog_131_method_1_code 7 = .ok (.iload_n 1, 1) := by decide +kernel
theorem drt_8 : decode prog_131_method_1_code 8 = .ok (.if_icmp .ge 10, 3) := by decide +kernel
theorem drt_18 : decode prog_131_method_1_code 18 = .ok (.aload_n 0, 1) := by decide +kernel
theorem drt_19 : decode prog_131_method_1_code 19 = .ok (.iload_n 2, 1) := by decide +kernel
theorem drt_20 : decode prog_131_method_1_code 20 = .ok (.putfield 7, 3) := by decide +kernel
theorem drt_23 : decode prog_131_method_1_code 23 = .ok (.aload_n 0, 1) := by decide +kernel
theorem drt_24 : decode prog_131_method_1_code 24 = .ok (.iconst 2, 1) := by decide +kernel
theorem drt_25 : decode prog_131_method_1_code 25 = .ok (.aload_n 0, 1) := by decide +kernel
theorem drt_26 : decode prog_131_method_1_code 26 = .ok (.getfield 7, 3) := by decide +kernel
theorem drt_29 : decode prog_131_method_1_code 29 = .ok (.imul, 1) := by decide +kernel
theorem drt_30 : decode prog_131_method_1_code 30 = .ok (.newarray .int, 2) := by decide +kernel
theorem drt_32 : decode prog_131_method_1_code 32 = .ok (.putfield 13, 3) := by decide +kernel
theorem drt_35 : decode prog_131_method_1_code 35 = .ok (.aload_n 0, 1) := by decide +kernel
theorem drt_36 : decode prog_131_method_1_code 36 = .ok (.getfield 13, 3) := by decide +kernel
theorem drt_39 : decode prog_131_method_1_code 39 = .ok (.iconst (-1), 1) := by decide +kernel
theorem drt_40 : decode prog_131_method_1_code 40 = .ok (.invokestatic 17, 3) := by decide +kernel
theorem drt_43 : decode prog_131_method_1_code 43 = .ok (.return_, 1) := by decide +kernel
theorem ef_rt (mI : MethodId) (a : Addr) : entryFrame mI #[(.ref a), (.int (1 : Int32))] 3 = mkF mI 0 #[.val (.ref a), .val (.int (1 : Int32)), .unset] [] := by first | (simp [entryFrame, mkF, argsToLocals, Value.category]; done) | rfl
theorem pn_rt : plainName own_RT = true := by first | decide +kernel | (simp [plainName, overriddenIn]; done)
set_option maxRecDepth 65536 in
set_option maxHeartbeats 40000000 in
theorem rmrt (lL : Launch) (Z : State) (a0 : Array Value) (hw : ∀ d ∈ tables_1, d.before a0 Z = true) (ws : List Jvm.Cond) (a : Addr) (h0 : Heap) (n0 : Nat) (Z0 : n0 ≤ h0.size) (F_leaves_a : Fld Z h0 a own_RT "leaves" "I" (.int (0 : Int32))) (F_reach_a : Fld Z h0 a own_RT "reach" "[I" .null) (E_a : Exa Z h0 a own_RT) (le_n0_a : n0 ≤ a) :
    MetFree lL (⟨own_RT, "<init>", "(I)V"⟩ : MethodName) (head1 (Jvm.Cond.code (⟨own_RT, "<init>", "(I)V"⟩ : MethodName) prog_131_method_1_code 3 none :: ws) ({ frames := 1, cells := 1, slots := 2, locals := 15 } : Room)) (fun a_ U_ => a_ = #[(.ref a), (.int (1 : Int32))] ∧ Z.Warmed39 U_.vm ∧ U_.heap = h0) (fun _ _ _ _ _ => True) (fun _ U_ o_ W_ => ∃ v_ L_, o_ = .returned v_ ∧ own_QK [a] h0 n0 v_ W_.heap L_ ∧ FrameEnd U_ o_ W_ L_ ({ frames := 1, cells := 1, slots := 2, locals := 15 } : Room).cells ({ frames := 1, cells := 1, slots := 2, locals := 15 } : Room).slots) := by
  refine MetFree.of_bodySF (plainFor_of_name pn_rt) hisR ?_
  intro pP eE sS mI args below meth cC s₁ Bd hml0 hP hK
  obtain ⟨rfl, hZ, hh⟩ := hP
  have hx := Bd.exec
  have hby := Bd.bytes
  have hml : cC.maxLocals = 3 := hml0
  have hown : sS.vm.findClass own_RT = some mI.cls := by have z := findClass_of_methodNamed Bd.named; exact z
  have hnm := (name_of_methodNamed Bd.named Bd.method).1
  have X0 : Stand pP lL eE ({ frames := 1, cells := 1, slots := 2, locals := 15 } : Room) sS mI #[(.ref a), (.int (1 : Int32))] below meth cC s₁ [] 0 0 := Stand.of_body Bd
  have e0 : s₁.heap = h0 := by rw [← hh, Bd.state]; rfl
  have N0 := Fr.nil n0
  obtain ⟨G, hG, hst, hend⟩ := own_abs pP eE below sS (own_QK [a] h0 n0) ({ frames := 1, cells := 1, slots := 2, locals := 15 } : Room).cells ({ frames := 1, cells := 1, slots := 2, locals := 15 } : Room).slots
  refine hG (S := s₁.setTop (entryFrame mI #[(.ref a), (.int (1 : Int32))] 3)) (hst (fun t_ kt_ => castTop (ef_rt mI a) kt_) ?_)
  have Z1 := Nat.le_refl h0.size
  have K0 := Keep.refl h0 [a]
  show G (s₁.setTop (mkF mI 0 #[.val (.ref a), .val (.int (1 : Int32)), .unset] []))
  refine o_aloadN hst X0.here hx (hb hby drt_0) (pc' := 1) rfl rfl rfl ?_
  obtain ⟨T_1, X_1, e_1, st_1⟩ := initO X0 hx hZ hown (own_w54 hw) (own_w20 hw) (own_w21 hw) e0 (g := (mkF mI 1 #[.val (.ref a), .val (.int (1 : Int32)), .unset] [(.ref a)])) rfl (by rw [hml]; rfl) rfl (hb hby drt_1) (by decide) (W := 0) (by show 2 * 0 + _ ≤ _; exact Nat.le_of_eq rfl) (by decide)
  refine hst st_1 ?_
  show G (T_1.setTop (mkF mI 4 #[.val (.ref a), .val (.int (1 : Int32)), .unset] []))
  refine o_iconst hst X_1.here hx (hb hby drt_4) (pc' := 5) rfl (z := (1 : Int32)) rfl ?_
  refine o_istoreN hst X_1.here hx (hb hby drt_5) (pc' := 6) rfl (Lt := #[.val (.ref a), .val (.int (1 : Int32)), .val (.int (1 : Int32))]) rfl ?_
  refine o_iloadN hst X_1.here hx (hb hby drt_6) (pc' := 7) rfl rfl ?_
  refine o_iloadN hst X_1.here hx (hb hby drt_7) (pc' := 8) rfl rfl ?_
  have hc8 : ¬ ((1 : Int32) < (1 : Int32)) := by decide
  refine hst (fun _ kt => XS.icmpYes X_1.here hx rfl (pc0 := 8) (pc' := 18) rfl (hb hby drt_8) rfl (flt hc8).2.1 (by decide) (by decide) kt) ?_
  show G (T_1.setTop (mkF mI 18 #[.val (.ref a), .val (.int (1 : Int32)), .val (.int (1 : Int32))] []))
  refine o_aloadN hst X_1.here hx (hb hby drt_18) (pc' := 19) rfl rfl rfl ?_
  refine o_iloadN hst X_1.here hx (hb hby drt_19) (pc' := 20) rfl rfl ?_
  obtain ⟨T_2, h_2, X_2, e_2, W_2, st_2⟩ := putF X_1 hx hZ hown (host := "") (Or.inl (own_w55 hw)) Via.refl e_1 F_leaves_a E_a (Or.inr ⟨(own_w56 hw), rfl, hnm⟩) (own_w49 hw) (ty := .int) (by decide) rfl rfl (g := (mkF mI 20 #[.val (.ref a), .val (.int (1 : Int32)), .val (.int (1 : Int32))] [(.int (1 : Int32)), (.ref a)])) rfl rfl (hb hby drt_20)
  have Z0 := Nat.le_trans Z0 (Keep.of_wr W_2).1
  have Z1 := Nat.le_trans Z1 (Keep.of_wr W_2).1
  have K0 := K0.wr W_2 (Or.inl (List.mem_of_getElem? (i := 0) rfl))
  have F_leaves_a := F_leaves_a.same W_2
  have F_reach_a := F_reach_a.other W_2 (Or.inr (slot_ne (Or.inr (own_w58 hw)) (Or.inr (own_w56 hw)) (by decide) (t := (.array .int)) (t' := .int) (by decide) (by decide)))
  have E_a := E_a.wr W_2
  have N_2 := Fr.snoc X_2 N0 le_n0_a
  refine hst st_2 ?_
  show G (T_2.setTop (mkF mI 23 #[.val (.ref a), .val (.int (1 : Int32)), .val (.int (1 : Int32))] []))
  refine o_aloadN hst X_2.here hx (hb hby drt_23) (pc' := 24) rfl rfl rfl ?_
  refine o_iconst hst X_2.here hx (hb hby drt_24) (pc' := 25) rfl (z := (2 : Int32)) rfl ?_
  refine o_aloadN hst X_2.here hx (hb hby drt_25) (pc' := 26) rfl rfl rfl ?_
  obtain ⟨T_3, X_3, e_3, st_3⟩ := getF X_2 hx hZ hown (host := "") (Or.inl (own_w55 hw)) Via.refl e_2 F_leaves_a (g := (mkF mI 26 #[.val (.ref a), .val (.int (1 : Int32)), .val (.int (1 : Int32))] [(.ref a), (.int (2 : Int32)), (.ref a)])) rfl rfl (hb hby drt_26)
  refine hst st_3 ?_
  show G (T_3.setTop (mkF mI 29 #[.val (.ref a), .val (.int (1 : Int32)), .val (.int (1 : Int32))] [(.int (1 : Int32)), (.int (2 : Int32)), (.ref a)]))
  refine o_imul hst X_3.here hx (hb hby drt_29) (pc' := 30) rfl ?_
  rw [show ((2 : Int32) * (1 : Int32)) = (2 : Int32) from by decide]
  show G (T_3.setTop (mkF mI 30 #[.val (.ref a), .val (.int (1 : Int32)), .val (.int (1 : Int32))] [(.int (2 : Int32)), (.ref a)]))
  obtain ⟨T_4, h_4, k_c, X_4, e_4, E_4, A_4, st_4⟩ := newP (aty := .int) X_3 hx hZ (own_w12 hw) e_3 (g := (mkF mI 30 #[.val (.ref a), .val (.int (1 : Int32)), .val (.int (1 : Int32))] [(.int (2 : Int32)), (.ref a)])) rfl (hb hby drt_30) rfl (by decide) (cap := 2) (by decide) (by decide) (by decide) (by decide)
  obtain ⟨c, g_c⟩ : ∃ z, z = h_2.size := ⟨_, rfl⟩
  rw [← g_c] at A_4 st_4
  have ne_a_c : a ≠ c := Nat.ne_of_lt (Nat.lt_of_lt_of_le F_leaves_a.lt (Nat.le_of_eq g_c.symm))
  have le_n0_c : n0 ≤ c := Nat.le_trans Z0 (Nat.le_of_eq g_c.symm)
  have le_hh_c : h0.size ≤ c := Nat.le_trans Z1 (Nat.le_of_eq g_c.symm)
  have Z0 := Nat.le_trans Z0 E_4.1
  have Z1 := Nat.le_trans Z1 E_4.1
  have K0 := K0.ext E_4
  have F_leaves_a := F_leaves_a.ext E_4
  have F_reach_a := F_reach_a.ext E_4
  have E_a := E_a.ext E_4
  have V_c : Arv Z h_4 c k_c .int (2 : Int32) [(.int (0 : Int32)), (.int (0 : Int32))] (.int (0 : Int32)) := (Arv.new A_4 (by decide)).pad (pad_rep [] (.int (0 : Int32)) 2)
  refine hst st_4 ?_
  show G (T_4.setTop (mkF mI 32 #[.val (.ref a), .val (.int (1 : Int32)), .val (.int (1 : Int32))] [(.ref c), (.ref a)]))
  obtain ⟨T_5, h_5, X_5, e_5, W_5, st_5⟩ := putF X_4 hx hZ hown (host := "") (Or.inl (own_w57 hw)) Via.refl e_4 F_reach_a E_a (Or.inr ⟨(own_w58 hw), rfl, hnm⟩) (own_w49 hw) (ty := (.array .int)) (by decide) rfl rfl (g := (mkF mI 32 #[.val (.ref a), .val (.int (1 : Int32)), .val (.int (1 : Int32))] [(.ref c), (.ref a)])) rfl rfl (hb hby drt_32)
  have Z0 := Nat.le_trans Z0 (Keep.of_wr W_5).1
  have Z1 := Nat.le_trans Z1 (Keep.of_wr W_5).1
  have K0 := K0.wr W_5 (Or.inl (List.mem_of_getElem? (i := 0) rfl))
  have F_leaves_a := F_leaves_a.other W_5 (Or.inr (slot_ne (Or.inr (own_w56 hw)) (Or.inr (own_w58 hw)) (by decide) (t := .int) (t' := (.array .int)) (by decide) (by decide)))
  have F_reach_a := F_reach_a.same W_5
  have E_a := E_a.wr W_5
  have V_c := V_c.other W_5 (Ne.symm ne_a_c)
  have N_5 := Fr.snoc X_5 N_2 le_n0_a
  refine hst st_5 ?_
  show G (T_5.setTop (mkF mI 35 #[.val (.ref a), .val (.int (1 : Int32)), .val (.int (1 : Int32))] []))
  refine o_aloadN hst X_5.here hx (hb hby drt_35) (pc' := 36) rfl rfl rfl ?_
  obtain ⟨T_6, X_6, e_6, st_6⟩ := getF X_5 hx hZ hown (host := "") (Or.inl (own_w57 hw)) Via.refl e_5 F_reach_a (g := (mkF mI 36 #[.val (.ref a), .val (.int (1 : Int32)), .val (.int (1 : Int32))] [(.ref a)])) rfl rfl (hb hby drt_36)
  refine hst st_6 ?_
  show G (T_6.setTop (mkF mI 39 #[.val (.ref a), .val (.int (1 : Int32)), .val (.int (1 : Int32))] [(.ref c)]))
  refine o_iconst hst X_6.here hx (hb hby drt_39) (pc' := 40) rfl (z := (-1 : Int32)) rfl ?_
  obtain ⟨_, _, ⟨T_7, L_7, k_7, n_7⟩, -, X_7, ⟨Lc_7, hQ_7, l_7, y_7, z_7⟩, st_7⟩ := Jvm.LawKit.callS X_6 hx (y := (⟨"java/util/Arrays", "fill", "([II)V"⟩ : MethodName)) hown (mvT hZ (own_w59 hw)) (mvT hZ (own_w60 hw)) (mvT hZ (own_w61 hw)) (mvT hZ (own_w62 hw)) (by decide) (backOf (W := 0) (rmfi lL Z a0 hw [] c k_c h_5 n0 Z0 V_c le_n0_c) hZ (own_w62 hw) (own_w61 hw) (by decide) (by decide)) (g := (mkF mI 40 #[.val (.ref a), .val (.int (1 : Int32)), .val (.int (1 : Int32))] [(.int (-1 : Int32)), (.ref c)])) rfl (by rw [hml]; rfl) (argsL := [(.ref c), (.int (-1 : Int32))]) (rest := []) (lenOf pd_1 rfl) rfl (by show 2 * 0 + _ ≤ _; exact Nat.le_of_eq rfl) (hb hby drt_40) (fun _ _ => ⟨rfl, e_6, (by decide : 1 + 0 ≤ _), (by decide : 2 + 0 ≤ _)⟩)
  dsimp only [Pt.U, Pt.locs, Pt.cells, Pt.slots] at X_7 l_7 y_7 z_7 st_7 hQ_7
  subst l_7 y_7 z_7
  obtain ⟨rfl, N_7q, K_7⟩ := hQ_7
  have Z0 := Nat.le_trans Z0 K_7.1
  have Z1 := Nat.le_trans Z1 K_7.1
  have K0 := K0.trans K_7 (allS (Or.inr le_hh_c) all0)
  have E_a := E_a.keep K_7
  have N_7 := Fr.app N_5 N_7q
  refine hst (fun _ kt => st_7 _ kt) ?_
  show G (T_7.setTop (mkF mI 43 #[.val (.ref a), .val (.int (1 : Int32)), .val (.int (1 : Int32))] []))
  exact hend (own_goVoid X_7 hx Bd.returns (hb hby drt_43) Bd.notSynchronized (by exact ⟨rfl, N_7, K0⟩) (by decide) (by decide))
theorem drs_0 : decode prog_150_method_1_code 0 = .ok (.aload_n 0, 1) := by decide +kernel
theorem drs_1 : decode prog_150_method_1_code 1 = .ok (.invokespecial 1, 3) := by decide +kernel
theorem drs_4 : decode prog_150_method_1_code 4 = .ok (.aload_n 0, 1) := by decide +kernel
theorem drs_5 : decode prog_150_method_1_code 5 = .ok (.new 7, 3) := by decide +kernel
theorem drs_8 : decode prog_150_method_1_code 8 = .ok (.dup, 1) := by decide +kernel
theorem drs_9 : decode prog_150_method_1_code 9 = .ok (.invokespecial 9, 3) := by decide +kernel
theorem drs_12 : decode prog_150_method_1_code 12 = .ok (.putfield 10, 3) := by decide +kernel
theorem drs_15 : decode prog_150_method_1_code 15 = .ok (.aload_n 0, 1) := by decide +kernel
theorem drs_16 : decode prog_150_method_1_code 16 = .ok (.new 7, 3) := by decide +kernel
theorem drs_19 : decode prog_150_method_1_code 19 = .ok (.dup, 1) := by decide +kernel
theorem drs_20 : decode prog_150_method_1_code 20 = .ok (.invokespecial 9, 3) := by decide +kernel
theorem drs_23 : decode prog_150_method_1_code 23 = .ok (.putfield 16, 3) := by decide +kernel
theorem drs_26 : decode prog_150_method_1_code 26 = .ok (.aload_n 0, 1) := by decide +kernel
theorem drs_27 : decode prog_150_method_1_code 27 = .ok (.bipush 16, 2) := by decide +kernel
theorem drs_29 : decode prog_150_method_1_code 29 = .ok (.newarray .int, 2) := by decide +kernel
theorem drs_31 : decode prog_150_method_1_code 31 = .ok (.putfield 19, 3) := by decide +kernel
theorem drs_34 : decode prog_150_method_1_code 34 = .ok (.aload_n 0, 1) := by decide +kernel
theorem drs_35 : decode prog_150_method_1_code 35 = .ok (.iload_n 1, 1) := by decide +kernel
theorem drs_36 : decode prog_150_method_1_code 36 = .ok (.anewarray 23, 3) := by decide +kernel
theorem drs_39 : decode prog_150_method_1_code 39 = .ok (.putfield 25, 3) := by decide +kernel
theorem drs_42 : decode prog_150_method_1_code 42 = .ok (.aload_n 0, 1) := by decide +kernel
theorem drs_43 : decode prog_150_method_1_code 43 = .ok (.new 29, 3) := by decide +kernel
theorem drs_46 : decode prog_150_method_1_code 46 = .ok (.dup, 1) := by decide +kernel
theorem drs_47 : decode prog_150_method_1_code 47 = .ok (.iload_n 1, 1) := by decide +kernel
theorem drs_48 : decode prog_150_method_1_code 48 = .ok (.invokespecial 31, 3) := by decide +kernel
theorem drs_51 : decode prog_150_method_1_code 51 = .ok (.putfield 34, 3) := by decide +kernel
theorem drs_54 : decode prog_150_method_1_code 54 = .ok (.return_, 1) := by decide +kernel
theorem ef_rs (mI : MethodId) (reg : Addr) : entryFrame mI #[(.ref reg), (.int (1 : Int32))] 2 = mkF mI 0 #[.val (.ref reg), .val (.int (1 : Int32))] [] := by first | (simp [entryFrame, mkF, argsToLocals, Value.category]; done) | rfl
theorem pn_rs : plainName own_SS = true := by first | decide +kernel | (simp [plainName, overriddenIn]; done)
set_option maxRecDepth 65536 in
set_option maxHeartbeats 40000000 in
theorem rmrs (lL : Launch) (Z : State) (a0 : Array Value) (hw : ∀ d ∈ tables_1, d.before a0 Z = true) (ws : List Jvm.Cond) (reg : Addr) (h0 : Heap) (n0 : Nat) (Z0 : n0 ≤ h0.size) (F_setsByTakes_reg : Fld Z h0 reg own_SS "setsByTakes" "Ljava/util/Map;" .null) (F_setsBySize_reg : Fld Z h0 reg own_SS "setsBySize" "Ljava/util/Map;" .null) (F_firsts_reg : Fld Z h0 reg own_SS "firsts" "[I" .null) (F_startingAt_reg : Fld Z h0 reg own_SS "startingAt" own_aRUN .null) (F_reach_reg : Fld Z h0 reg own_SS "reach" own_dRT .null) (F_kept_reg : Fld Z h0 reg own_SS "kept" own_dST .null) (E_reg : Exa Z h0 reg own_SS) (le_n0_reg : n0 ≤ reg) :
    MetFree lL (⟨own_SS, "<init>", "(I)V"⟩ : MethodName) (head1 (Jvm.Cond.code (⟨own_SS, "<init>", "(I)V"⟩ : MethodName) prog_150_method_1_code 2 none :: ws) ({ frames := 3, cells := 6, slots := 37, locals := 38 } : Room)) (fun a_ U_ => a_ = #[(.ref reg), (.int (1 : Int32))] ∧ Z.Warmed39 U_.vm ∧ U_.heap = h0) (fun _ _ _ _ _ => True) (fun _ U_ o_ W_ => ∃ v_ L_, o_ = .returned v_ ∧ own_Qrs Z reg h0 n0 v_ W_.heap L_ ∧ FrameEnd U_ o_ W_ L_ ({ frames := 3, cells := 6, slots := 37, locals := 38 } : Room).cells ({ frames := 3, cells := 6, slots := 37, locals := 38 } : Room).slots) := by
  refine MetFree.of_bodySF (plainFor_of_name pn_rs) hisR ?_
  intro pP eE sS mI args below meth cC s₁ Bd hml0 hP hK
  obtain ⟨rfl, hZ, hh⟩ := hP
  have hx := Bd.exec
  have hby := Bd.bytes
  have hml : cC.maxLocals = 2 := hml0
  have hown : sS.vm.findClass own_SS = some mI.cls := by have z := findClass_of_methodNamed Bd.named; exact z
  have hnm := (name_of_methodNamed Bd.named Bd.method).1
  have X0 : Stand pP lL eE ({ frames := 3, cells := 6, slots := 37, locals := 38 } : Room) sS mI #[(.ref reg), (.int (1 : Int32))] below meth cC s₁ [] 0 0 := Stand.of_body Bd
  have e0 : s₁.heap = h0 := by rw [← hh, Bd.state]; rfl
  have N0 := Fr.nil n0
  obtain ⟨G, hG, hst, hend⟩ := own_abs pP eE below sS (own_Qrs Z reg h0 n0) ({ frames := 3, cells := 6, slots := 37, locals := 38 } : Room).cells ({ frames := 3, cells := 6, slots := 37, locals := 38 } : Room).slots
  refine hG (S := s₁.setTop (entryFrame mI #[(.ref reg), (.int (1 : Int32))] 2)) (hst (fun t_ kt_ => castTop (ef_rs mI reg) kt_) ?_)
  have Z1 := Nat.le_refl h0.size
  have K0 := Keep.refl h0 [reg]
  show G (s₁.setTop (mkF mI 0 #[.val (.ref reg), .val (.int (1 : Int32))] []))
  refine o_aloadN hst X0.here hx (hb hby drs_0) (pc' := 1) rfl rfl rfl ?_
  obtain ⟨T_1, X_1, e_1, st_1⟩ := initO X0 hx hZ hown (own_w19 hw) (own_w20 hw) (own_w21 hw) e0 (g := (mkF mI 1 #[.val (.ref reg), .val (.int (1 : Int32))] [(.ref reg)])) rfl (by rw [hml]; rfl) rfl (hb hby drs_1) (by decide) (W := 0) (by show 2 * 0 + _ ≤ _; exact Nat.le_of_eq rfl) (by decide)
  refine hst st_1 ?_
  show G (T_1.setTop (mkF mI 4 #[.val (.ref reg), .val (.int (1 : Int32))] []))
  refine o_aloadN hst X_1.here hx (hb hby drs_4) (pc' := 5) rfl rfl rfl ?_
  obtain ⟨T_2, h_2, X_2, e_2, E_2, A_2, D_2, -, st_2⟩ := newO X_1 hx hZ hown (own_w22 hw) (own_w23 hw) (own_w24 hw) e_1 (g := (mkF mI 5 #[.val (.ref reg), .val (.int (1 : Int32))] [(.ref reg)])) rfl (hb hby drs_5) (by decide) (by decide)
  obtain ⟨m0, g_m0⟩ : ∃ z, z = h0.size := ⟨_, rfl⟩
  rw [← g_m0] at A_2 D_2 st_2
  have ne_reg_m0 : reg ≠ m0 := Nat.ne_of_lt (Nat.lt_of_lt_of_le F_setsByTakes_reg.lt (Nat.le_of_eq g_m0.symm))
  have le_n0_m0 : n0 ≤ m0 := Nat.le_trans Z0 (Nat.le_of_eq g_m0.symm)
  have le_hh_m0 : h0.size ≤ m0 := Nat.le_trans Z1 (Nat.le_of_eq g_m0.symm)
  have Z0 := Nat.le_trans Z0 E_2.1
  have Z1 := Nat.le_trans Z1 E_2.1
  have K0 := K0.ext E_2
  have F_setsByTakes_reg := F_setsByTakes_reg.ext E_2
  have F_setsBySize_reg := F_setsBySize_reg.ext E_2
  have F_firsts_reg := F_firsts_reg.ext E_2
  have F_startingAt_reg := F_startingAt_reg.ext E_2
  have F_reach_reg := F_reach_reg.ext E_2
  have F_kept_reg := F_kept_reg.ext E_2
  have E_reg := E_reg.ext E_2
  have E_m0 : Exa Z h_2 m0 "java/util/HashMap" := A_2
  have F_loadFactor_m0 : Fld Z h_2 m0 "java/util/HashMap" "loadFactor" "F" (defaultValue .float) := D_2 (Or.inr (own_w37 hw)) (ty := .float) (by decide)
  refine hst st_2 ?_
  show G (T_2.setTop (mkF mI 8 #[.val (.ref reg), .val (.int (1 : Int32))] [(.ref m0), (.ref reg)]))
  refine o_dup hst X_2.here hx (hb hby drs_8) (pc' := 9) rfl rfl ?_
  obtain ⟨_, _, ⟨T_3, L_3, k_3, n_3⟩, -, X_3, ⟨Lc_3, hQ_3, l_3, y_3, z_3⟩, st_3⟩ := X_2.specialBack hx (y := (⟨"java/util/HashMap", "<init>", "()V"⟩ : MethodName)) rfl hown (mvT hZ (own_w25 hw)) (mvT hZ (own_w26 hw)) (mvT hZ (own_w27 hw)) (by decide) (backOf (W := 2) (rmh0 lL Z a0 hw [] m0  h_2 n0 Z0 F_loadFactor_m0 E_m0 le_n0_m0) hZ (own_w27 hw) (own_w24 hw) (by decide) (by decide)) (g := (mkF mI 9 #[.val (.ref reg), .val (.int (1 : Int32))] [(.ref m0), (.ref m0), (.ref reg)])) rfl (by rw [hml]; rfl) (Steps.refl _) (a := m0) (argsL := []) (rest := [(.ref m0), (.ref reg)]) (lenOf pd_0 rfl) rfl (by show 2 * 0 + _ ≤ _; exact Nat.le_of_eq rfl) (hb hby drs_9) (fun _ _ => ⟨rfl, e_2, (by decide : 1 + 0 ≤ _), (by decide : 8 + 0 ≤ _)⟩)
  dsimp only [Pt.U, Pt.locs, Pt.cells, Pt.slots] at X_3 l_3 y_3 z_3 st_3 hQ_3
  subst l_3 y_3 z_3
  obtain ⟨rfl, N_3q, K_3⟩ := hQ_3
  have Z0 := Nat.le_trans Z0 K_3.1
  have Z1 := Nat.le_trans Z1 K_3.1
  have K0 := K0.trans K_3 (allS (Or.inr le_hh_m0) all0)
  have F_setsByTakes_reg := F_setsByTakes_reg.keep K_3 (ninS ne_reg_m0 nin0)
  have F_setsBySize_reg := F_setsBySize_reg.keep K_3 (ninS ne_reg_m0 nin0)
  have F_firsts_reg := F_firsts_reg.keep K_3 (ninS ne_reg_m0 nin0)
  have F_startingAt_reg := F_startingAt_reg.keep K_3 (ninS ne_reg_m0 nin0)
  have F_reach_reg := F_reach_reg.keep K_3 (ninS ne_reg_m0 nin0)
  have F_kept_reg := F_kept_reg.keep K_3 (ninS ne_reg_m0 nin0)
  have E_reg := E_reg.keep K_3
  have E_m0 := E_m0.keep K_3
  have N_3 := Fr.app N0 N_3q
  refine hst (fun _ kt => st_3.trans kt) ?_
  show G (T_3.setTop (mkF mI 12 #[.val (.ref reg), .val (.int (1 : Int32))] [(.ref m0), (.ref reg)]))
  obtain ⟨T_4, h_4, X_4, e_4, W_4, st_4⟩ := putF X_3 hx hZ hown (host := "") (Or.inl (own_w38 hw)) Via.refl rfl F_setsByTakes_reg E_reg (Or.inr ⟨(own_w39 hw), rfl, hnm⟩) (own_w14 hw) (ty := (.object "java/util/Map")) (by decide) rfl rfl (g := (mkF mI 12 #[.val (.ref reg), .val (.int (1 : Int32))] [(.ref m0), (.ref reg)])) rfl rfl (hb hby drs_12)
  have Z0 := Nat.le_trans Z0 (Keep.of_wr W_4).1
  have Z1 := Nat.le_trans Z1 (Keep.of_wr W_4).1
  have K0 := K0.wr W_4 (Or.inl (List.mem_of_getElem? (i := 0) rfl))
  have F_setsByTakes_reg := F_setsByTakes_reg.same W_4
  have F_setsBySize_reg := F_setsBySize_reg.other W_4 (Or.inr (slot_ne (Or.inr (own_w41 hw)) (Or.inr (own_w39 hw)) (by decide) (t := (.object "java/util/Map")) (t' := (.object "java/util/Map")) (by decide) (by decide)))
  have F_firsts_reg := F_firsts_reg.other W_4 (Or.inr (slot_ne (Or.inl (own_w43 hw)) (Or.inr (own_w39 hw)) (by decide) (t := (.array .int)) (t' := (.object "java/util/Map")) (by decide) (by decide)))
  have F_startingAt_reg := F_startingAt_reg.other W_4 (Or.inr (slot_ne (Or.inr (own_w47 hw)) (Or.inr (own_w39 hw)) (by decide) (t := (.array (.object own_RUN))) (t' := (.object "java/util/Map")) (by decide) (by decide)))
  have F_reach_reg := F_reach_reg.other W_4 (Or.inr (slot_ne (Or.inr (own_w64 hw)) (Or.inr (own_w39 hw)) (by decide) (t := (.object own_RT)) (t' := (.object "java/util/Map")) (by decide) (by decide)))
  have F_kept_reg := F_kept_reg.other W_4 (Or.inr (slot_ne (Or.inl (own_w124 hw)) (Or.inr (own_w39 hw)) (by decide) (t := (.object own_ST)) (t' := (.object "java/util/Map")) (by decide) (by decide)))
  have E_reg := E_reg.wr W_4
  have E_m0 := E_m0.wr W_4
  have N_4 := Fr.snoc X_4 N_3 le_n0_reg
  refine hst st_4 ?_
  show G (T_4.setTop (mkF mI 15 #[.val (.ref reg), .val (.int (1 : Int32))] []))
  refine o_aloadN hst X_4.here hx (hb hby drs_15) (pc' := 16) rfl rfl rfl ?_
  obtain ⟨T_5, h_5, X_5, e_5, E_5, A_5, D_5, -, st_5⟩ := newO X_4 hx hZ hown (own_w22 hw) (own_w23 hw) (own_w24 hw) e_4 (g := (mkF mI 16 #[.val (.ref reg), .val (.int (1 : Int32))] [(.ref reg)])) rfl (hb hby drs_16) (by decide) (by decide)
  obtain ⟨m1, g_m1⟩ : ∃ z, z = h_4.size := ⟨_, rfl⟩
  rw [← g_m1] at A_5 D_5 st_5
  have ne_reg_m1 : reg ≠ m1 := Nat.ne_of_lt (Nat.lt_of_lt_of_le F_setsBySize_reg.lt (Nat.le_of_eq g_m1.symm))
  have le_n0_m1 : n0 ≤ m1 := Nat.le_trans Z0 (Nat.le_of_eq g_m1.symm)
  have le_hh_m1 : h0.size ≤ m1 := Nat.le_trans Z1 (Nat.le_of_eq g_m1.symm)
  have Z0 := Nat.le_trans Z0 E_5.1
  have Z1 := Nat.le_trans Z1 E_5.1
  have K0 := K0.ext E_5
  have F_setsBySize_reg := F_setsBySize_reg.ext E_5
  have F_firsts_reg := F_firsts_reg.ext E_5
  have F_startingAt_reg := F_startingAt_reg.ext E_5
  have F_reach_reg := F_reach_reg.ext E_5
  have F_kept_reg := F_kept_reg.ext E_5
  have E_reg := E_reg.ext E_5
  have E_m1 : Exa Z h_5 m1 "java/util/HashMap" := A_5
  have F_loadFactor_m1 : Fld Z h_5 m1 "java/util/HashMap" "loadFactor" "F" (defaultValue .float) := D_5 (Or.inr (own_w37 hw)) (ty := .float) (by decide)
  refine hst st_5 ?_
  show G (T_5.setTop (mkF mI 19 #[.val (.ref reg), .val (.int (1 : Int32))] [(.ref m1), (.ref reg)]))
  refine o_dup hst X_5.here hx (hb hby drs_19) (pc' := 20) rfl rfl ?_
  obtain ⟨_, _, ⟨T_6, L_6, k_6, n_6⟩, -, X_6, ⟨Lc_6, hQ_6, l_6, y_6, z_6⟩, st_6⟩ := X_5.specialBack hx (y := (⟨"java/util/HashMap", "<init>", "()V"⟩ : MethodName)) rfl hown (mvT hZ (own_w25 hw)) (mvT hZ (own_w26 hw)) (mvT hZ (own_w27 hw)) (by decide) (backOf (W := 2) (rmh0 lL Z a0 hw [] m1  h_5 n0 Z0 F_loadFactor_m1 E_m1 le_n0_m1) hZ (own_w27 hw) (own_w24 hw) (by decide) (by decide)) (g := (mkF mI 20 #[.val (.ref reg), .val (.int (1 : Int32))] [(.ref m1), (.ref m1), (.ref reg)])) rfl (by rw [hml]; rfl) (Steps.refl _) (a := m1) (argsL := []) (rest := [(.ref m1), (.ref reg)]) (lenOf pd_0 rfl) rfl (by show 2 * 0 + _ ≤ _; exact Nat.le_of_eq rfl) (hb hby drs_20) (fun _ _ => ⟨rfl, e_5, (by decide : 2 + 0 ≤ _), (by decide : 16 + 0 ≤ _)⟩)
  dsimp only [Pt.U, Pt.locs, Pt.cells, Pt.slots] at X_6 l_6 y_6 z_6 st_6 hQ_6
  subst l_6 y_6 z_6
  obtain ⟨rfl, N_6q, K_6⟩ := hQ_6
  have Z0 := Nat.le_trans Z0 K_6.1
  have Z1 := Nat.le_trans Z1 K_6.1
  have K0 := K0.trans K_6 (allS (Or.inr le_hh_m1) all0)
  have F_setsBySize_reg := F_setsBySize_reg.keep K_6 (ninS ne_reg_m1 nin0)
  have F_firsts_reg := F_firsts_reg.keep K_6 (ninS ne_reg_m1 nin0)
  have F_startingAt_reg := F_startingAt_reg.keep K_6 (ninS ne_reg_m1 nin0)
  have F_reach_reg := F_reach_reg.keep K_6 (ninS ne_reg_m1 nin0)
  have F_kept_reg := F_kept_reg.keep K_6 (ninS ne_reg_m1 nin0)
  have E_reg := E_reg.keep K_6
  have E_m1 := E_m1.keep K_6
  have N_6 := Fr.app N_4 N_6q
  refine hst (fun _ kt => st_6.trans kt) ?_
  show G (T_6.setTop (mkF mI 23 #[.val (.ref reg), .val (.int (1 : Int32))] [(.ref m1), (.ref reg)]))
  obtain ⟨T_7, h_7, X_7, e_7, W_7, st_7⟩ := putF X_6 hx hZ hown (host := "") (Or.inl (own_w40 hw)) Via.refl rfl F_setsBySize_reg E_reg (Or.inr ⟨(own_w41 hw), rfl, hnm⟩) (own_w14 hw) (ty := (.object "java/util/Map")) (by decide) rfl rfl (g := (mkF mI 23 #[.val (.ref reg), .val (.int (1 : Int32))] [(.ref m1), (.ref reg)])) rfl rfl (hb hby drs_23)
  have Z0 := Nat.le_trans Z0 (Keep.of_wr W_7).1
  have Z1 := Nat.le_trans Z1 (Keep.of_wr W_7).1
  have K0 := K0.wr W_7 (Or.inl (List.mem_of_getElem? (i := 0) rfl))
  have F_setsBySize_reg := F_setsBySize_reg.same W_7
  have F_firsts_reg := F_firsts_reg.other W_7 (Or.inr (slot_ne (Or.inl (own_w43 hw)) (Or.inr (own_w41 hw)) (by decide) (t := (.array .int)) (t' := (.object "java/util/Map")) (by decide) (by decide)))
  have F_startingAt_reg := F_startingAt_reg.other W_7 (Or.inr (slot_ne (Or.inr (own_w47 hw)) (Or.inr (own_w41 hw)) (by decide) (t := (.array (.object own_RUN))) (t' := (.object "java/util/Map")) (by decide) (by decide)))
  have F_reach_reg := F_reach_reg.other W_7 (Or.inr (slot_ne (Or.inr (own_w64 hw)) (Or.inr (own_w41 hw)) (by decide) (t := (.object own_RT)) (t' := (.object "java/util/Map")) (by decide) (by decide)))
  have F_kept_reg := F_kept_reg.other W_7 (Or.inr (slot_ne (Or.inl (own_w124 hw)) (Or.inr (own_w41 hw)) (by decide) (t := (.object own_ST)) (t' := (.object "java/util/Map")) (by decide) (by decide)))
  have E_reg := E_reg.wr W_7
  have E_m1 := E_m1.wr W_7
  have N_7 := Fr.snoc X_7 N_6 le_n0_reg
  refine hst st_7 ?_
  show G (T_7.setTop (mkF mI 26 #[.val (.ref reg), .val (.int (1 : Int32))] []))
  refine o_aloadN hst X_7.here hx (hb hby drs_26) (pc' := 27) rfl rfl rfl ?_
  refine o_bipush hst X_7.here hx (hb hby drs_27) (pc' := 29) rfl (z := (16 : Int32)) rfl ?_
  obtain ⟨T_8, h_8, k_c1, X_8, e_8, E_8, A_8, st_8⟩ := newP (aty := .int) X_7 hx hZ (own_w12 hw) e_7 (g := (mkF mI 29 #[.val (.ref reg), .val (.int (1 : Int32))] [(.int (16 : Int32)), (.ref reg)])) rfl (hb hby drs_29) rfl (by decide) (cap := 16) (by decide) (by decide) (by decide) (by decide)
  obtain ⟨c1, g_c1⟩ : ∃ z, z = h_7.size := ⟨_, rfl⟩
  rw [← g_c1] at A_8 st_8
  have ne_reg_c1 : reg ≠ c1 := Nat.ne_of_lt (Nat.lt_of_lt_of_le F_firsts_reg.lt (Nat.le_of_eq g_c1.symm))
  have le_n0_c1 : n0 ≤ c1 := Nat.le_trans Z0 (Nat.le_of_eq g_c1.symm)
  have le_hh_c1 : h0.size ≤ c1 := Nat.le_trans Z1 (Nat.le_of_eq g_c1.symm)
  have Z0 := Nat.le_trans Z0 E_8.1
  have Z1 := Nat.le_trans Z1 E_8.1
  have K0 := K0.ext E_8
  have F_firsts_reg := F_firsts_reg.ext E_8
  have F_startingAt_reg := F_startingAt_reg.ext E_8
  have F_reach_reg := F_reach_reg.ext E_8
  have F_kept_reg := F_kept_reg.ext E_8
  have E_reg := E_reg.ext E_8
  have V_c1 : Arv Z h_8 c1 k_c1 .int (16 : Int32) [(.int (0 : Int32)), (.int (0 : Int32)), (.int (0 : Int32)), (.int (0 : Int32)), (.int (0 : Int32)), (.int (0 : Int32)), (.int (0 : Int32)), (.int (0 : Int32)), (.int (0 : Int32)), (.int (0 : Int32)), (.int (0 : Int32)), (.int (0 : Int32)), (.int (0 : Int32)), (.int (0 : Int32)), (.int (0 : Int32)), (.int (0 : Int32))] (.int (0 : Int32)) := (Arv.new A_8 (by decide)).pad (pad_rep [] (.int (0 : Int32)) 16)
  refine hst st_8 ?_
  show G (T_8.setTop (mkF mI 31 #[.val (.ref reg), .val (.int (1 : Int32))] [(.ref c1), (.ref reg)]))
  obtain ⟨T_9, h_9, X_9, e_9, W_9, st_9⟩ := putF X_8 hx hZ hown (host := "") (Or.inl (own_w42 hw)) Via.refl e_8 F_firsts_reg E_reg (Or.inl (own_w43 hw)) (own_w14 hw) (ty := (.array .int)) (by decide) rfl rfl (g := (mkF mI 31 #[.val (.ref reg), .val (.int (1 : Int32))] [(.ref c1), (.ref reg)])) rfl rfl (hb hby drs_31)
  have Z0 := Nat.le_trans Z0 (Keep.of_wr W_9).1
  have Z1 := Nat.le_trans Z1 (Keep.of_wr W_9).1
  have K0 := K0.wr W_9 (Or.inl (List.mem_of_getElem? (i := 0) rfl))
  have F_firsts_reg := F_firsts_reg.same W_9
  have F_startingAt_reg := F_startingAt_reg.other W_9 (Or.inr (slot_ne (Or.inr (own_w47 hw)) (Or.inl (own_w43 hw)) (by decide) (t := (.array (.object own_RUN))) (t' := (.array .int)) (by decide) (by decide)))
  have F_reach_reg := F_reach_reg.other W_9 (Or.inr (slot_ne (Or.inr (own_w64 hw)) (Or.inl (own_w43 hw)) (by decide) (t := (.object own_RT)) (t' := (.array .int)) (by decide) (by decide)))
  have F_kept_reg := F_kept_reg.other W_9 (Or.inr (slot_ne (Or.inl (own_w124 hw)) (Or.inl (own_w43 hw)) (by decide) (t := (.object own_ST)) (t' := (.array .int)) (by decide) (by decide)))
  have E_reg := E_reg.wr W_9
  have N_9 := Fr.snoc X_9 N_7 le_n0_reg
  refine hst st_9 ?_
  show G (T_9.setTop (mkF mI 34 #[.val (.ref reg), .val (.int (1 : Int32))] []))
  refine o_aloadN hst X_9.here hx (hb hby drs_34) (pc' := 35) rfl rfl rfl ?_
  refine o_iloadN hst X_9.here hx (hb hby drs_35) (pc' := 36) rfl rfl ?_
  obtain ⟨T_10, h_10, k_c2, X_10, e_10, E_10, A_10, O_c2, st_10⟩ := newR X_9 hx hZ hown (own_w44 hw) (own_w45 hw) e_9 (g := (mkF mI 36 #[.val (.ref reg), .val (.int (1 : Int32))] [(.int (1 : Int32)), (.ref reg)])) rfl (hb hby drs_36) rfl (by decide) (cap := 1) (by decide) (by decide) (by decide) (by decide)
  obtain ⟨c2, g_c2⟩ : ∃ z, z = h_9.size := ⟨_, rfl⟩
  rw [← g_c2] at A_10 st_10
  have ne_reg_c2 : reg ≠ c2 := Nat.ne_of_lt (Nat.lt_of_lt_of_le F_startingAt_reg.lt (Nat.le_of_eq g_c2.symm))
  have le_n0_c2 : n0 ≤ c2 := Nat.le_trans Z0 (Nat.le_of_eq g_c2.symm)
  have le_hh_c2 : h0.size ≤ c2 := Nat.le_trans Z1 (Nat.le_of_eq g_c2.symm)
  have Z0 := Nat.le_trans Z0 E_10.1
  have Z1 := Nat.le_trans Z1 E_10.1
  have K0 := K0.ext E_10
  have F_startingAt_reg := F_startingAt_reg.ext E_10
  have F_reach_reg := F_reach_reg.ext E_10
  have F_kept_reg := F_kept_reg.ext E_10
  have E_reg := E_reg.ext E_10
  have V_c2 : Arv Z h_10 c2 k_c2 (.object own_RUN) (1 : Int32) [.null] .null := (Arv.new A_10 (by decide)).pad (pad_rep [] .null 1)
  refine hst st_10 ?_
  show G (T_10.setTop (mkF mI 39 #[.val (.ref reg), .val (.int (1 : Int32))] [(.ref c2), (.ref reg)]))
  obtain ⟨T_11, h_11, X_11, e_11, W_11, st_11⟩ := putF X_10 hx hZ hown (host := "") (Or.inl (own_w46 hw)) Via.refl e_10 F_startingAt_reg E_reg (Or.inr ⟨(own_w47 hw), rfl, hnm⟩) (own_w14 hw) (ty := (.array (.object own_RUN))) (by decide) rfl rfl (g := (mkF mI 39 #[.val (.ref reg), .val (.int (1 : Int32))] [(.ref c2), (.ref reg)])) rfl rfl (hb hby drs_39)
  have Z0 := Nat.le_trans Z0 (Keep.of_wr W_11).1
  have Z1 := Nat.le_trans Z1 (Keep.of_wr W_11).1
  have K0 := K0.wr W_11 (Or.inl (List.mem_of_getElem? (i := 0) rfl))
  have F_startingAt_reg := F_startingAt_reg.same W_11
  have F_reach_reg := F_reach_reg.other W_11 (Or.inr (slot_ne (Or.inr (own_w64 hw)) (Or.inr (own_w47 hw)) (by decide) (t := (.object own_RT)) (t' := (.array (.object own_RUN))) (by decide) (by decide)))
  have F_kept_reg := F_kept_reg.other W_11 (Or.inr (slot_ne (Or.inl (own_w124 hw)) (Or.inr (own_w47 hw)) (by decide) (t := (.object own_ST)) (t' := (.array (.object own_RUN))) (by decide) (by decide)))
  have E_reg := E_reg.wr W_11
  have N_11 := Fr.snoc X_11 N_9 le_n0_reg
  refine hst st_11 ?_
  show G (T_11.setTop (mkF mI 42 #[.val (.ref reg), .val (.int (1 : Int32))] []))
  refine o_aloadN hst X_11.here hx (hb hby drs_42) (pc' := 43) rfl rfl rfl ?_
  obtain ⟨T_12, h_12, X_12, e_12, E_12, A_12, D_12, -, st_12⟩ := newO X_11 hx hZ hown (own_w48 hw) (own_w49 hw) (own_w50 hw) e_11 (g := (mkF mI 43 #[.val (.ref reg), .val (.int (1 : Int32))] [(.ref reg)])) rfl (hb hby drs_43) (by decide) (by decide)
  obtain ⟨rt, g_rt⟩ : ∃ z, z = h_11.size := ⟨_, rfl⟩
  rw [← g_rt] at A_12 D_12 st_12
  have ne_reg_rt : reg ≠ rt := Nat.ne_of_lt (Nat.lt_of_lt_of_le F_reach_reg.lt (Nat.le_of_eq g_rt.symm))
  have le_n0_rt : n0 ≤ rt := Nat.le_trans Z0 (Nat.le_of_eq g_rt.symm)
  have le_hh_rt : h0.size ≤ rt := Nat.le_trans Z1 (Nat.le_of_eq g_rt.symm)
  have Z0 := Nat.le_trans Z0 E_12.1
  have Z1 := Nat.le_trans Z1 E_12.1
  have K0 := K0.ext E_12
  have F_reach_reg := F_reach_reg.ext E_12
  have F_kept_reg := F_kept_reg.ext E_12
  have E_reg := E_reg.ext E_12
  have E_rt : Exa Z h_12 rt own_RT := A_12
  have F_leaves_rt : Fld Z h_12 rt own_RT "leaves" "I" (.int (0 : Int32)) := D_12 (Or.inr (own_w56 hw)) (ty := .int) (by decide)
  have F_reach_rt : Fld Z h_12 rt own_RT "reach" "[I" .null := D_12 (Or.inr (own_w58 hw)) (ty := (.array .int)) (by decide)
  refine hst st_12 ?_
  show G (T_12.setTop (mkF mI 46 #[.val (.ref reg), .val (.int (1 : Int32))] [(.ref rt), (.ref reg)]))
  refine o_dup hst X_12.here hx (hb hby drs_46) (pc' := 47) rfl rfl ?_
  refine o_iloadN hst X_12.here hx (hb hby drs_47) (pc' := 48) rfl rfl ?_
  obtain ⟨_, _, ⟨T_13, L_13, k_13, n_13⟩, -, X_13, ⟨Lc_13, hQ_13, l_13, y_13, z_13⟩, st_13⟩ := X_12.specialBack hx (y := (⟨own_RT, "<init>", "(I)V"⟩ : MethodName)) rfl hown (mvT hZ (own_w51 hw)) (mvT hZ (own_w52 hw)) (mvT hZ (own_w53 hw)) (by decide) (backOf (W := 2) (rmrt lL Z a0 hw [] rt  h_12 n0 Z0 F_leaves_rt F_reach_rt E_rt le_n0_rt) hZ (own_w53 hw) (own_w50 hw) (by decide) (by decide)) (g := (mkF mI 48 #[.val (.ref reg), .val (.int (1 : Int32))] [(.int (1 : Int32)), (.ref rt), (.ref rt), (.ref reg)])) rfl (by rw [hml]; rfl) (Steps.refl _) (a := rt) (argsL := [(.int (1 : Int32))]) (rest := [(.ref rt), (.ref reg)]) (lenOf pd_2 rfl) rfl (by show 2 * 0 + _ ≤ _; exact Nat.le_of_eq rfl) (hb hby drs_48) (fun _ _ => ⟨rfl, e_12, (by decide : 5 + 1 ≤ _), (by decide : 35 + 2 ≤ _)⟩)
  dsimp only [Pt.U, Pt.locs, Pt.cells, Pt.slots] at X_13 l_13 y_13 z_13 st_13 hQ_13
  subst l_13 y_13 z_13
  obtain ⟨rfl, N_13q, K_13⟩ := hQ_13
  have Z0 := Nat.le_trans Z0 K_13.1
  have Z1 := Nat.le_trans Z1 K_13.1
  have K0 := K0.trans K_13 (allS (Or.inr le_hh_rt) all0)
  have F_reach_reg := F_reach_reg.keep K_13 (ninS ne_reg_rt nin0)
  have F_kept_reg := F_kept_reg.keep K_13 (ninS ne_reg_rt nin0)
  have E_reg := E_reg.keep K_13
  have E_rt := E_rt.keep K_13
  have N_13 := Fr.app N_11 N_13q
  refine hst (fun _ kt => st_13.trans kt) ?_
  show G (T_13.setTop (mkF mI 51 #[.val (.ref reg), .val (.int (1 : Int32))] [(.ref rt), (.ref reg)]))
  obtain ⟨T_14, h_14, X_14, e_14, W_14, st_14⟩ := putF X_13 hx hZ hown (host := "") (Or.inl (own_w63 hw)) Via.refl rfl F_reach_reg E_reg (Or.inr ⟨(own_w64 hw), rfl, hnm⟩) (own_w14 hw) (ty := (.object own_RT)) (by decide) rfl rfl (g := (mkF mI 51 #[.val (.ref reg), .val (.int (1 : Int32))] [(.ref rt), (.ref reg)])) rfl rfl (hb hby drs_51)
  have Z0 := Nat.le_trans Z0 (Keep.of_wr W_14).1
  have Z1 := Nat.le_trans Z1 (Keep.of_wr W_14).1
  have K0 := K0.wr W_14 (Or.inl (List.mem_of_getElem? (i := 0) rfl))
  have F_reach_reg := F_reach_reg.same W_14
  have F_kept_reg := F_kept_reg.other W_14 (Or.inr (slot_ne (Or.inl (own_w124 hw)) (Or.inr (own_w64 hw)) (by decide) (t := (.object own_ST)) (t' := (.object own_RT)) (by decide) (by decide)))
  have E_reg := E_reg.wr W_14
  have E_rt := E_rt.wr W_14
  have N_14 := Fr.snoc X_14 N_13 le_n0_reg
  refine hst st_14 ?_
  show G (T_14.setTop (mkF mI 54 #[.val (.ref reg), .val (.int (1 : Int32))] []))
  exact hend (own_goVoid X_14 hx Bd.returns (hb hby drs_54) Bd.notSynchronized (by rw [e_14]; exact ⟨rfl, N_14, K0, F_kept_reg⟩) (by decide) (by decide))
theorem dts_0 : decode prog_157_method_1_code 0 = .ok (.aload_n 0, 1) := by decide +kernel
theorem dts_1 : decode prog_157_method_1_code 1 = .ok (.invokespecial 1, 3) := by decide +kernel
theorem dts_4 : decode prog_157_method_1_code 4 = .ok (.aload_n 0, 1) := by decide +kernel
theorem dts_5 : decode prog_157_method_1_code 5 = .ok (.iconst 1, 1) := by decide +kernel
theorem dts_6 : decode prog_157_method_1_code 6 = .ok (.putfield 7, 3) := by decide +kernel
theorem dts_9 : decode prog_157_method_1_code 9 = .ok (.aload_n 0, 1) := by decide +kernel
theorem dts_10 : decode prog_157_method_1_code 10 = .ok (.iconst (-1), 1) := by decide +kernel
theorem dts_11 : decode prog_157_method_1_code 11 = .ok (.putfield 13, 3) := by decide +kernel
theorem dts_14 : decode prog_157_method_1_code 14 = .ok (.aload_n 0, 1) := by decide +kernel
theorem dts_15 : decode prog_157_method_1_code 15 = .ok (.aload_n 1, 1) := by decide +kernel
theorem dts_16 : decode prog_157_method_1_code 16 = .ok (.putfield 17, 3) := by decide +kernel
theorem dts_19 : decode prog_157_method_1_code 19 = .ok (.aload_n 0, 1) := by decide +kernel
theorem dts_20 : decode prog_157_method_1_code 20 = .ok (.aload_n 2, 1) := by decide +kernel
theorem dts_21 : decode prog_157_method_1_code 21 = .ok (.putfield 21, 3) := by decide +kernel
theorem dts_24 : decode prog_157_method_1_code 24 = .ok (.aload_n 0, 1) := by decide +kernel
theorem dts_25 : decode prog_157_method_1_code 25 = .ok (.lload_n 3, 1) := by decide +kernel
theorem dts_26 : decode prog_157_method_1_code 26 = .ok (.putfield 25, 3) := by decide +kernel
theorem dts_29 : decode prog_157_method_1_code 29 = .ok (.aload_n 0, 1) := by decide +kernel
theorem dts_30 : decode prog_157_method_1_code 30 = .ok (.lload 5, 2) := by decide +kernel
theorem dts_32 : decode prog_157_method_1_code 32 = .ok (.putfield 29, 3) := by decide +kernel
theorem dts_35 : decode prog_157_method_1_code 35 = .ok (.return_, 1) := by decide +kernel
theorem ef_ts (mI : MethodId) (a : Addr) (ns : Addr) (nc : Addr) : entryFrame mI #[(.ref a), (.ref ns), (.ref nc), (.long (0 : Int64)), (.long (0 : Int64))] 7 = mkF mI 0 #[.val (.ref a), .val (.ref ns), .val (.ref nc), .val (.long (0 : Int64)), .second, .val (.long (0 : Int64)), .second] [] := by first | (simp [entryFrame, mkF, argsToLocals, Value.category]; done) | rfl
theorem pn_ts : plainName own_TS = true := by first | decide +kernel | (simp [plainName, overriddenIn]; done)
set_option maxRecDepth 65536 in
set_option maxHeartbeats 40000000 in
theorem rmts (lL : Launch) (Z : State) (a0 : Array Value) (hw : ∀ d ∈ tables_1, d.before a0 Z = true) (ws : List Jvm.Cond) (a : Addr) (ns : Addr) (nc : Addr) (h0 : Heap) (n0 : Nat) (Z0 : n0 ≤ h0.size) (F_kept_a : Fld Z h0 a own_TS "kept" "Z" (.int (0 : Int32))) (F_queuedUnder_a : Fld Z h0 a own_TS "queuedUnder" "I" (.int (0 : Int32))) (F_takenSizes_a : Fld Z h0 a own_TS "takenSizes" "[J" .null) (F_takenCounts_a : Fld Z h0 a own_TS "takenCounts" "[I" .null) (F_total_a : Fld Z h0 a own_TS "total" "J" (.long (0 : Int64))) (F_bytes_a : Fld Z h0 a own_TS "bytes" "J" (.long (0 : Int64))) (E_a : Exa Z h0 a own_TS) (le_n0_a : n0 ≤ a) :
    MetFree lL (⟨own_TS, "<init>", "([J[IJJ)V"⟩ : MethodName) (head1 (Jvm.Cond.code (⟨own_TS, "<init>", "([J[IJJ)V"⟩ : MethodName) prog_157_method_1_code 7 none :: ws) ({ frames := 1, cells := 0, slots := 0, locals := 12 } : Room)) (fun a_ U_ => a_ = #[(.ref a), (.ref ns), (.ref nc), (.long (0 : Int64)), (.long (0 : Int64))] ∧ Z.Warmed39 U_.vm ∧ U_.heap = h0) (fun _ _ _ _ _ => True) (fun _ U_ o_ W_ => ∃ v_ L_, o_ = .returned v_ ∧ own_QK [a] h0 n0 v_ W_.heap L_ ∧ FrameEnd U_ o_ W_ L_ ({ frames := 1, cells := 0, slots := 0, locals := 12 } : Room).cells ({ frames := 1, cells := 0, slots := 0, locals := 12 } : Room).slots) := by
  refine MetFree.of_bodySF (plainFor_of_name pn_ts) hisR ?_
  intro pP eE sS mI args below meth cC s₁ Bd hml0 hP hK
  obtain ⟨rfl, hZ, hh⟩ := hP
  have hx := Bd.exec
  have hby := Bd.bytes
  have hml : cC.maxLocals = 7 := hml0
  have hown : sS.vm.findClass own_TS = some mI.cls := by have z := findClass_of_methodNamed Bd.named; exact z
  have hnm := (name_of_methodNamed Bd.named Bd.method).1
  have X0 : Stand pP lL eE ({ frames := 1, cells := 0, slots := 0, locals := 12 } : Room) sS mI #[(.ref a), (.ref ns), (.ref nc), (.long (0 : Int64)), (.long (0 : Int64))] below meth cC s₁ [] 0 0 := Stand.of_body Bd
  have e0 : s₁.heap = h0 := by rw [← hh, Bd.state]; rfl
  have N0 := Fr.nil n0
  obtain ⟨G, hG, hst, hend⟩ := own_abs pP eE below sS (own_QK [a] h0 n0) ({ frames := 1, cells := 0, slots := 0, locals := 12 } : Room).cells ({ frames := 1, cells := 0, slots := 0, locals := 12 } : Room).slots
  refine hG (S := s₁.setTop (entryFrame mI #[(.ref a), (.ref ns), (.ref nc), (.long (0 : Int64)), (.long (0 : Int64))] 7)) (hst (fun t_ kt_ => castTop (ef_ts mI a ns nc) kt_) ?_)
  have Z1 := Nat.le_refl h0.size
  have K0 := Keep.refl h0 [a]
  show G (s₁.setTop (mkF mI 0 #[.val (.ref a), .val (.ref ns), .val (.ref nc), .val (.long (0 : Int64)), .second, .val (.long (0 : Int64)), .second] []))
  refine o_aloadN hst X0.here hx (hb hby dts_0) (pc' := 1) rfl rfl rfl ?_
  obtain ⟨T_1, X_1, e_1, st_1⟩ := initO X0 hx hZ hown (own_w80 hw) (own_w20 hw) (own_w21 hw) e0 (g := (mkF mI 1 #[.val (.ref a), .val (.ref ns), .val (.ref nc), .val (.long (0 : Int64)), .second, .val (.long (0 : Int64)), .second] [(.ref a)])) rfl (by rw [hml]; rfl) rfl (hb hby dts_1) (by decide) (W := 0) (by show 2 * 0 + _ ≤ _; exact Nat.le_of_eq rfl) (by decide)
  refine hst st_1 ?_
  show G (T_1.setTop (mkF mI 4 #[.val (.ref a), .val (.ref ns), .val (.ref nc), .val (.long (0 : Int64)), .second, .val (.long (0 : Int64)), .second] []))
  refine o_aloadN hst X_1.here hx (hb hby dts_4) (pc' := 5) rfl rfl rfl ?_
  refine o_iconst hst X_1.here hx (hb hby dts_5) (pc' := 6) rfl (z := (1 : Int32)) rfl ?_
  obtain ⟨T_2, h_2, X_2, e_2, W_2, st_2⟩ := putFN X_1 hx hZ hown (own_w81 hw) Via.refl e_1 F_kept_a E_a (Or.inl (own_w82 hw)) (own_w71 hw) (ty := .boolean) (v' := (.int (1 : Int32))) (by decide) rfl rfl (g := (mkF mI 6 #[.val (.ref a), .val (.ref ns), .val (.ref nc), .val (.long (0 : Int64)), .second, .val (.long (0 : Int64)), .second] [(.int (1 : Int32)), (.ref a)])) rfl rfl (hb hby dts_6)
  have Z0 := Nat.le_trans Z0 (Keep.of_wr W_2).1
  have Z1 := Nat.le_trans Z1 (Keep.of_wr W_2).1
  have K0 := K0.wr W_2 (Or.inl (List.mem_of_getElem? (i := 0) rfl))
  have F_kept_a := F_kept_a.same W_2
  have F_queuedUnder_a := F_queuedUnder_a.other W_2 (Or.inr (slot_ne (Or.inl (own_w84 hw)) (Or.inl (own_w82 hw)) (by decide) (t := .int) (t' := .boolean) (by decide) (by decide)))
  have F_takenSizes_a := F_takenSizes_a.other W_2 (Or.inr (slot_ne (Or.inr (own_w86 hw)) (Or.inl (own_w82 hw)) (by decide) (t := (.array .long)) (t' := .boolean) (by decide) (by decide)))
  have F_takenCounts_a := F_takenCounts_a.other W_2 (Or.inr (slot_ne (Or.inr (own_w88 hw)) (Or.inl (own_w82 hw)) (by decide) (t := (.array .int)) (t' := .boolean) (by decide) (by decide)))
  have F_total_a := F_total_a.other W_2 (Or.inr (slot_ne (Or.inr (own_w90 hw)) (Or.inl (own_w82 hw)) (by decide) (t := .long) (t' := .boolean) (by decide) (by decide)))
  have F_bytes_a := F_bytes_a.other W_2 (Or.inr (slot_ne (Or.inl (own_w92 hw)) (Or.inl (own_w82 hw)) (by decide) (t := .long) (t' := .boolean) (by decide) (by decide)))
  have E_a := E_a.wr W_2
  have N_2 := Fr.snoc X_2 N0 le_n0_a
  refine hst st_2 ?_
  show G (T_2.setTop (mkF mI 9 #[.val (.ref a), .val (.ref ns), .val (.ref nc), .val (.long (0 : Int64)), .second, .val (.long (0 : Int64)), .second] []))
  refine o_aloadN hst X_2.here hx (hb hby dts_9) (pc' := 10) rfl rfl rfl ?_
  refine o_iconst hst X_2.here hx (hb hby dts_10) (pc' := 11) rfl (z := (-1 : Int32)) rfl ?_
  obtain ⟨T_3, h_3, X_3, e_3, W_3, st_3⟩ := putF X_2 hx hZ hown (host := "") (Or.inl (own_w83 hw)) Via.refl e_2 F_queuedUnder_a E_a (Or.inl (own_w84 hw)) (own_w71 hw) (ty := .int) (by decide) rfl rfl (g := (mkF mI 11 #[.val (.ref a), .val (.ref ns), .val (.ref nc), .val (.long (0 : Int64)), .second, .val (.long (0 : Int64)), .second] [(.int (-1 : Int32)), (.ref a)])) rfl rfl (hb hby dts_11)
  have Z0 := Nat.le_trans Z0 (Keep.of_wr W_3).1
  have Z1 := Nat.le_trans Z1 (Keep.of_wr W_3).1
  have K0 := K0.wr W_3 (Or.inl (List.mem_of_getElem? (i := 0) rfl))
  have F_queuedUnder_a := F_queuedUnder_a.same W_3
  have F_takenSizes_a := F_takenSizes_a.other W_3 (Or.inr (slot_ne (Or.inr (own_w86 hw)) (Or.inl (own_w84 hw)) (by decide) (t := (.array .long)) (t' := .int) (by decide) (by decide)))
  have F_takenCounts_a := F_takenCounts_a.other W_3 (Or.inr (slot_ne (Or.inr (own_w88 hw)) (Or.inl (own_w84 hw)) (by decide) (t := (.array .int)) (t' := .int) (by decide) (by decide)))
  have F_total_a := F_total_a.other W_3 (Or.inr (slot_ne (Or.inr (own_w90 hw)) (Or.inl (own_w84 hw)) (by decide) (t := .long) (t' := .int) (by decide) (by decide)))
  have F_bytes_a := F_bytes_a.other W_3 (Or.inr (slot_ne (Or.inl (own_w92 hw)) (Or.inl (own_w84 hw)) (by decide) (t := .long) (t' := .int) (by decide) (by decide)))
  have E_a := E_a.wr W_3
  have N_3 := Fr.snoc X_3 N_2 le_n0_a
  refine hst st_3 ?_
  show G (T_3.setTop (mkF mI 14 #[.val (.ref a), .val (.ref ns), .val (.ref nc), .val (.long (0 : Int64)), .second, .val (.long (0 : Int64)), .second] []))
  refine o_aloadN hst X_3.here hx (hb hby dts_14) (pc' := 15) rfl rfl rfl ?_
  refine o_aloadN hst X_3.here hx (hb hby dts_15) (pc' := 16) rfl rfl rfl ?_
  obtain ⟨T_4, h_4, X_4, e_4, W_4, st_4⟩ := putF X_3 hx hZ hown (host := "") (Or.inl (own_w85 hw)) Via.refl e_3 F_takenSizes_a E_a (Or.inr ⟨(own_w86 hw), rfl, hnm⟩) (own_w71 hw) (ty := (.array .long)) (by decide) rfl rfl (g := (mkF mI 16 #[.val (.ref a), .val (.ref ns), .val (.ref nc), .val (.long (0 : Int64)), .second, .val (.long (0 : Int64)), .second] [(.ref ns), (.ref a)])) rfl rfl (hb hby dts_16)
  have Z0 := Nat.le_trans Z0 (Keep.of_wr W_4).1
  have Z1 := Nat.le_trans Z1 (Keep.of_wr W_4).1
  have K0 := K0.wr W_4 (Or.inl (List.mem_of_getElem? (i := 0) rfl))
  have F_takenSizes_a := F_takenSizes_a.same W_4
  have F_takenCounts_a := F_takenCounts_a.other W_4 (Or.inr (slot_ne (Or.inr (own_w88 hw)) (Or.inr (own_w86 hw)) (by decide) (t := (.array .int)) (t' := (.array .long)) (by decide) (by decide)))
  have F_total_a := F_total_a.other W_4 (Or.inr (slot_ne (Or.inr (own_w90 hw)) (Or.inr (own_w86 hw)) (by decide) (t := .long) (t' := (.array .long)) (by decide) (by decide)))
  have F_bytes_a := F_bytes_a.other W_4 (Or.inr (slot_ne (Or.inl (own_w92 hw)) (Or.inr (own_w86 hw)) (by decide) (t := .long) (t' := (.array .long)) (by decide) (by decide)))
  have E_a := E_a.wr W_4
  have N_4 := Fr.snoc X_4 N_3 le_n0_a
  refine hst st_4 ?_
  show G (T_4.setTop (mkF mI 19 #[.val (.ref a), .val (.ref ns), .val (.ref nc), .val (.long (0 : Int64)), .second, .val (.long (0 : Int64)), .second] []))
  refine o_aloadN hst X_4.here hx (hb hby dts_19) (pc' := 20) rfl rfl rfl ?_
  refine o_aloadN hst X_4.here hx (hb hby dts_20) (pc' := 21) rfl rfl rfl ?_
  obtain ⟨T_5, h_5, X_5, e_5, W_5, st_5⟩ := putF X_4 hx hZ hown (host := "") (Or.inl (own_w87 hw)) Via.refl e_4 F_takenCounts_a E_a (Or.inr ⟨(own_w88 hw), rfl, hnm⟩) (own_w71 hw) (ty := (.array .int)) (by decide) rfl rfl (g := (mkF mI 21 #[.val (.ref a), .val (.ref ns), .val (.ref nc), .val (.long (0 : Int64)), .second, .val (.long (0 : Int64)), .second] [(.ref nc), (.ref a)])) rfl rfl (hb hby dts_21)
  have Z0 := Nat.le_trans Z0 (Keep.of_wr W_5).1
  have Z1 := Nat.le_trans Z1 (Keep.of_wr W_5).1
  have K0 := K0.wr W_5 (Or.inl (List.mem_of_getElem? (i := 0) rfl))
  have F_takenCounts_a := F_takenCounts_a.same W_5
  have F_total_a := F_total_a.other W_5 (Or.inr (slot_ne (Or.inr (own_w90 hw)) (Or.inr (own_w88 hw)) (by decide) (t := .long) (t' := (.array .int)) (by decide) (by decide)))
  have F_bytes_a := F_bytes_a.other W_5 (Or.inr (slot_ne (Or.inl (own_w92 hw)) (Or.inr (own_w88 hw)) (by decide) (t := .long) (t' := (.array .int)) (by decide) (by decide)))
  have E_a := E_a.wr W_5
  have N_5 := Fr.snoc X_5 N_4 le_n0_a
  refine hst st_5 ?_
  show G (T_5.setTop (mkF mI 24 #[.val (.ref a), .val (.ref ns), .val (.ref nc), .val (.long (0 : Int64)), .second, .val (.long (0 : Int64)), .second] []))
  refine o_aloadN hst X_5.here hx (hb hby dts_24) (pc' := 25) rfl rfl rfl ?_
  refine o_lloadN hst X_5.here hx (hb hby dts_25) (pc' := 26) rfl rfl ?_
  obtain ⟨T_6, h_6, X_6, e_6, W_6, st_6⟩ := putF X_5 hx hZ hown (host := "") (Or.inl (own_w89 hw)) Via.refl e_5 F_total_a E_a (Or.inr ⟨(own_w90 hw), rfl, hnm⟩) (own_w71 hw) (ty := .long) (by decide) rfl rfl (g := (mkF mI 26 #[.val (.ref a), .val (.ref ns), .val (.ref nc), .val (.long (0 : Int64)), .second, .val (.long (0 : Int64)), .second] [(.long (0 : Int64)), (.ref a)])) rfl rfl (hb hby dts_26)
  have Z0 := Nat.le_trans Z0 (Keep.of_wr W_6).1
  have Z1 := Nat.le_trans Z1 (Keep.of_wr W_6).1
  have K0 := K0.wr W_6 (Or.inl (List.mem_of_getElem? (i := 0) rfl))
  have F_total_a := F_total_a.same W_6
  have F_bytes_a := F_bytes_a.other W_6 (Or.inr (slot_ne (Or.inl (own_w92 hw)) (Or.inr (own_w90 hw)) (by decide) (t := .long) (t' := .long) (by decide) (by decide)))
  have E_a := E_a.wr W_6
  have N_6 := Fr.snoc X_6 N_5 le_n0_a
  refine hst st_6 ?_
  show G (T_6.setTop (mkF mI 29 #[.val (.ref a), .val (.ref ns), .val (.ref nc), .val (.long (0 : Int64)), .second, .val (.long (0 : Int64)), .second] []))
  refine o_aloadN hst X_6.here hx (hb hby dts_29) (pc' := 30) rfl rfl rfl ?_
  refine o_lload hst X_6.here hx (hb hby dts_30) (pc' := 32) rfl rfl ?_
  obtain ⟨T_7, h_7, X_7, e_7, W_7, st_7⟩ := putF X_6 hx hZ hown (host := "") (Or.inl (own_w91 hw)) Via.refl e_6 F_bytes_a E_a (Or.inl (own_w92 hw)) (own_w71 hw) (ty := .long) (by decide) rfl rfl (g := (mkF mI 32 #[.val (.ref a), .val (.ref ns), .val (.ref nc), .val (.long (0 : Int64)), .second, .val (.long (0 : Int64)), .second] [(.long (0 : Int64)), (.ref a)])) rfl rfl (hb hby dts_32)
  have Z0 := Nat.le_trans Z0 (Keep.of_wr W_7).1
  have Z1 := Nat.le_trans Z1 (Keep.of_wr W_7).1
  have K0 := K0.wr W_7 (Or.inl (List.mem_of_getElem? (i := 0) rfl))
  have F_bytes_a := F_bytes_a.same W_7
  have E_a := E_a.wr W_7
  have N_7 := Fr.snoc X_7 N_6 le_n0_a
  refine hst st_7 ?_
  show G (T_7.setTop (mkF mI 35 #[.val (.ref a), .val (.ref ns), .val (.ref nc), .val (.long (0 : Int64)), .second, .val (.long (0 : Int64)), .second] []))
  exact hend (own_goVoid X_7 hx Bd.returns (hb hby dts_35) Bd.notSynchronized (by rw [e_7]; exact ⟨rfl, N_7, K0⟩) (by decide) (by decide))
theorem dal_0 : decode prog_150_method_4_code 0 = .ok (.new 103, 3) := by decide +kernel
theorem dal_3 : decode prog_150_method_4_code 3 = .ok (.dup, 1) := by decide +kernel
theorem dal_4 : decode prog_150_method_4_code 4 = .ok (.getstatic 105, 3) := by decide +kernel
theorem dal_7 : decode prog_150_method_4_code 7 = .ok (.getstatic 109, 3) := by decide +kernel
theorem dal_10 : decode prog_150_method_4_code 10 = .ok (.lconst 0, 1) := by decide +kernel
theorem dal_11 : decode prog_150_method_4_code 11 = .ok (.lconst 0, 1) := by decide +kernel
theorem dal_12 : decode prog_150_method_4_code 12 = .ok (.invokespecial 112, 3) := by decide +kernel
theorem dal_15 : decode prog_150_method_4_code 15 = .ok (.areturn, 1) := by decide +kernel
theorem ef_al (mI : MethodId) (reg : Addr) : entryFrame mI #[(.ref reg)] 1 = mkF mI 0 #[.val (.ref reg)] [] := by first | (simp [entryFrame, mkF, argsToLocals, Value.category]; done) | rfl
theorem pn_al : plainName own_SS = true := by first | decide +kernel | (simp [plainName, overriddenIn]; done)
set_option maxRecDepth 65536 in
set_option maxHeartbeats 40000000 in
theorem rmal (lL : Launch) (Z : State) (a0 : Array Value) (hw : ∀ d ∈ tables_1, d.before a0 Z = true) (ws : List Jvm.Cond) (reg : Addr) (ns : Addr) (nc : Addr) (h0 : Heap) (n0 : Nat) (Z0 : n0 ≤ h0.size) (S_n1 : Sta Z h0 own_SS "NO_SIZES" "[J" (.ref ns)) (S_n2 : Sta Z h0 own_SS "NO_COUNTS" "[I" (.ref nc)) :
    MetFree lL (⟨own_SS, "alone", "()Lcom/example/tierfold/tierfold/tiered/TailSet;"⟩ : MethodName) (head1 (Jvm.Cond.code (⟨own_SS, "alone", "()Lcom/example/tierfold/tierfold/tiered/TailSet;"⟩ : MethodName) prog_150_method_4_code 1 (some (.object own_TS)) :: ws) ({ frames := 2, cells := 1, slots := 7, locals := 31 } : Room)) (fun a_ U_ => a_ = #[(.ref reg)] ∧ Z.Warmed39 U_.vm ∧ U_.heap = h0) (fun _ _ _ _ _ => True) (fun _ U_ o_ W_ => ∃ v_ L_, o_ = .returned v_ ∧ own_Qal h0 n0 v_ W_.heap L_ ∧ FrameEnd U_ o_ W_ L_ ({ frames := 2, cells := 1, slots := 7, locals := 31 } : Room).cells ({ frames := 2, cells := 1, slots := 7, locals := 31 } : Room).slots) := by
  refine MetFree.of_bodySF (plainFor_of_name pn_al) hisR ?_
  intro pP eE sS mI args below meth cC s₁ Bd hml0 hP hK
  obtain ⟨rfl, hZ, hh⟩ := hP
  have hx := Bd.exec
  have hby := Bd.bytes
  have hml : cC.maxLocals = 1 := hml0
  have hown : sS.vm.findClass own_SS = some mI.cls := by have z := findClass_of_methodNamed Bd.named; exact z
  have hnm := (name_of_methodNamed Bd.named Bd.method).1
  have X0 : Stand pP lL eE ({ frames := 2, cells := 1, slots := 7, locals := 31 } : Room) sS mI #[(.ref reg)] below meth cC s₁ [] 0 0 := Stand.of_body Bd
  have e0 : s₁.heap = h0 := by rw [← hh, Bd.state]; rfl
  have N0 := Fr.nil n0
  obtain ⟨G, hG, hst, hend⟩ := own_abs pP eE below sS (own_Qal h0 n0) ({ frames := 2, cells := 1, slots := 7, locals := 31 } : Room).cells ({ frames := 2, cells := 1, slots := 7, locals := 31 } : Room).slots
  refine hG (S := s₁.setTop (entryFrame mI #[(.ref reg)] 1)) (hst (fun t_ kt_ => castTop (ef_al mI reg) kt_) ?_)
  have Z1 := Nat.le_refl h0.size
  have K0 := Keep.refl h0 []
  show G (s₁.setTop (mkF mI 0 #[.val (.ref reg)] []))
  obtain ⟨T_1, h_1, X_1, e_1, E_1, A_1, D_1, -, st_1⟩ := newO X0 hx hZ hown (own_w70 hw) (own_w71 hw) (own_w72 hw) e0 (g := (mkF mI 0 #[.val (.ref reg)] [])) rfl (hb hby dal_0) (by decide) (by decide)
  obtain ⟨ts, g_ts⟩ : ∃ z, z = h0.size := ⟨_, rfl⟩
  rw [← g_ts] at A_1 D_1 st_1
  have le_n0_ts : n0 ≤ ts := Nat.le_trans Z0 (Nat.le_of_eq g_ts.symm)
  have le_hh_ts : h0.size ≤ ts := Nat.le_trans Z1 (Nat.le_of_eq g_ts.symm)
  have Z0 := Nat.le_trans Z0 E_1.1
  have Z1 := Nat.le_trans Z1 E_1.1
  have K0 := K0.ext E_1
  have S_n1 := S_n1.ext E_1
  have S_n2 := S_n2.ext E_1
  have E_ts : Exa Z h_1 ts own_TS := A_1
  have F_kept_ts : Fld Z h_1 ts own_TS "kept" "Z" (.int (0 : Int32)) := D_1 (Or.inl (own_w82 hw)) (ty := .boolean) (by decide)
  have F_queuedUnder_ts : Fld Z h_1 ts own_TS "queuedUnder" "I" (.int (0 : Int32)) := D_1 (Or.inl (own_w84 hw)) (ty := .int) (by decide)
  have F_takenSizes_ts : Fld Z h_1 ts own_TS "takenSizes" "[J" .null := D_1 (Or.inr (own_w86 hw)) (ty := (.array .long)) (by decide)
  have F_takenCounts_ts : Fld Z h_1 ts own_TS "takenCounts" "[I" .null := D_1 (Or.inr (own_w88 hw)) (ty := (.array .int)) (by decide)
  have F_total_ts : Fld Z h_1 ts own_TS "total" "J" (.long (0 : Int64)) := D_1 (Or.inr (own_w90 hw)) (ty := .long) (by decide)
  have F_bytes_ts : Fld Z h_1 ts own_TS "bytes" "J" (.long (0 : Int64)) := D_1 (Or.inl (own_w92 hw)) (ty := .long) (by decide)
  refine hst st_1 ?_
  show G (T_1.setTop (mkF mI 3 #[.val (.ref reg)] [(.ref ts)]))
  refine o_dup hst X_1.here hx (hb hby dal_3) (pc' := 4) rfl rfl ?_
  obtain ⟨T_2, X_2, e_2, st_2⟩ := getS2 X_1 hx hZ hown (host := "") (Or.inl (own_w73 hw)) Via.refl e_1 S_n1 (g := (mkF mI 4 #[.val (.ref reg)] [(.ref ts), (.ref ts)])) rfl (hb hby dal_4)
  refine hst st_2 ?_
  show G (T_2.setTop (mkF mI 7 #[.val (.ref reg)] [(.ref ns), (.ref ts), (.ref ts)]))
  obtain ⟨T_3, X_3, e_3, st_3⟩ := getS2 X_2 hx hZ hown (host := "") (Or.inl (own_w75 hw)) Via.refl e_2 S_n2 (g := (mkF mI 7 #[.val (.ref reg)] [(.ref ns), (.ref ts), (.ref ts)])) rfl (hb hby dal_7)
  refine hst st_3 ?_
  show G (T_3.setTop (mkF mI 10 #[.val (.ref reg)] [(.ref nc), (.ref ns), (.ref ts), (.ref ts)]))
  refine o_lconst hst X_3.here hx (hb hby dal_10) (pc' := 11) rfl (z := (0 : Int64)) rfl ?_
  refine o_lconst hst X_3.here hx (hb hby dal_11) (pc' := 12) rfl (z := (0 : Int64)) rfl ?_
  obtain ⟨_, _, ⟨T_4, L_4, k_4, n_4⟩, -, X_4, ⟨Lc_4, hQ_4, l_4, y_4, z_4⟩, st_4⟩ := X_3.specialBack hx (y := (⟨own_TS, "<init>", "([J[IJJ)V"⟩ : MethodName)) rfl hown (mvT hZ (own_w77 hw)) (mvT hZ (own_w78 hw)) (mvT hZ (own_w79 hw)) (by decide) (backOf (W := 1) (rmts lL Z a0 hw [] ts ns nc  h_1 n0 Z0 F_kept_ts F_queuedUnder_ts F_takenSizes_ts F_takenCounts_ts F_total_ts F_bytes_ts E_ts le_n0_ts) hZ (own_w79 hw) (own_w72 hw) (by decide) (by decide)) (g := (mkF mI 12 #[.val (.ref reg)] [(.long (0 : Int64)), (.long (0 : Int64)), (.ref nc), (.ref ns), (.ref ts), (.ref ts)])) rfl (by rw [hml]; rfl) (Steps.refl _) (a := ts) (argsL := [(.ref ns), (.ref nc), (.long (0 : Int64)), (.long (0 : Int64))]) (rest := [(.ref ts)]) (lenOf pd_3 rfl) rfl (by show 2 * 0 + _ ≤ _; exact Nat.le_of_eq rfl) (hb hby dal_12) (fun _ _ => ⟨rfl, e_3, (by decide : 1 + 0 ≤ _), (by decide : 7 + 0 ≤ _)⟩)
  dsimp only [Pt.U, Pt.locs, Pt.cells, Pt.slots] at X_4 l_4 y_4 z_4 st_4 hQ_4
  subst l_4 y_4 z_4
  obtain ⟨rfl, N_4q, K_4⟩ := hQ_4
  have Z0 := Nat.le_trans Z0 K_4.1
  have Z1 := Nat.le_trans Z1 K_4.1
  have K0 := K0.trans K_4 (allS (Or.inr le_hh_ts) all0)
  have E_ts := E_ts.keep K_4
  have N_4 := Fr.app N0 N_4q
  refine hst (fun _ kt => st_4.trans kt) ?_
  show G (T_4.setTop (mkF mI 15 #[.val (.ref reg)] [(.ref ts)]))
  exact hend (own_goRet X_4 hx Bd.returns rfl (Or.inr (Or.inr (Or.inr (Or.inr ⟨rfl, rfl, rfl⟩)))) (hb hby dal_15) Bd.notSynchronized (by exact ⟨ts, rfl, N_4, K0⟩) (by decide) (by decide))
theorem dst_0 : decode prog_148_method_2_code 0 = .ok (.aload_n 0, 1) := by decide +kernel
theorem dst_1 : decode prog_148_method_2_code 1 = .ok (.invokespecial 16, 3) := by decide +kernel
theorem dst_4 : decode prog_148_method_2_code 4 = .ok (.aload_n 0, 1) := by decide +kernel
theorem dst_5 : decode prog_148_method_2_code 5 = .ok (.iconst (-1), 1) := by decide +kernel
theorem dst_6 : decode prog_148_method_2_code 6 = .ok (.putfield 24, 3) := by decide +kernel
theorem dst_9 : decode prog_148_method_2_code 9 = .ok (.aload_n 0, 1) := by decide +kernel
theorem dst_10 : decode prog_148_method_2_code 10 = .ok (.iload_n 1, 1) := by decide +kernel
theorem dst_11 : decode prog_148_method_2_code 11 = .ok (.putfield 28, 3) := by decide +kernel
theorem dst_14 : decode prog_148_method_2_code 14 = .ok (.aload_n 0, 1) := by decide +kernel
theorem dst_15 : decode prog_148_method_2_code 15 = .ok (.lload_n 3, 1) := by decide +kernel
theorem dst_16 : decode prog_148_method_2_code 16 = .ok (.putfield 31, 3) := by decide +kernel
theorem dst_19 : decode prog_148_method_2_code 19 = .ok (.aload_n 0, 1) := by decide +kernel
theorem dst_20 : decode prog_148_method_2_code 20 = .ok (.lload 7, 2) := by decide +kernel
theorem dst_22 : decode prog_148_method_2_code 22 = .ok (.putfield 34, 3) := by decide +kernel
theorem dst_25 : decode prog_148_method_2_code 25 = .ok (.aload_n 0, 1) := by decide +kernel
theorem dst_26 : decode prog_148_method_2_code 26 = .ok (.lload 5, 2) := by decide +kernel
theorem dst_28 : decode prog_148_method_2_code 28 = .ok (.putfield 1, 3) := by decide +kernel
theorem dst_31 : decode prog_148_method_2_code 31 = .ok (.aload_n 0, 1) := by decide +kernel
theorem dst_32 : decode prog_148_method_2_code 32 = .ok (.lload 9, 2) := by decide +kernel
theorem dst_34 : decode prog_148_method_2_code 34 = .ok (.putfield 37, 3) := by decide +kernel
theorem dst_37 : decode prog_148_method_2_code 37 = .ok (.aload_n 0, 1) := by decide +kernel
theorem dst_38 : decode prog_148_method_2_code 38 = .ok (.aload 11, 2) := by decide +kernel
theorem dst_40 : decode prog_148_method_2_code 40 = .ok (.putfield 7, 3) := by decide +kernel
theorem dst_43 : decode prog_148_method_2_code 43 = .ok (.aconst_null, 1) := by decide +kernel
theorem dst_44 : decode prog_148_method_2_code 44 = .ok (.astore 12, 2) := by decide +kernel
theorem dst_46 : decode prog_148_method_2_code 46 = .ok (.aload_n 2, 1) := by decide +kernel
theorem dst_47 : decode prog_148_method_2_code 47 = .ok (.arraylength, 1) := by decide +kernel
theorem dst_48 : decode prog_148_method_2_code 48 = .ok (.iconst 2, 1) := by decide +kernel
theorem dst_49 : decode prog_148_method_2_code 49 = .ok (.isub, 1) := by decide +kernel
theorem dst_50 : decode prog_148_method_2_code 50 = .ok (.istore 13, 2) := by decide +kernel
theorem dst_52 : decode prog_148_method_2_code 52 = .ok (.iload 13, 2) := by decide +kernel
theorem dst_54 : decode prog_148_method_2_code 54 = .ok (.ifCond .lt 40, 3) := by decide +kernel
theorem dst_94 : decode prog_148_method_2_code 94 = .ok (.aload_n 0, 1) := by decide +kernel
theorem dst_95 : decode prog_148_method_2_code 95 = .ok (.aload 12, 2) := by decide +kernel
theorem dst_97 : decode prog_148_method_2_code 97 = .ok (.putfield 49, 3) := by decide +kernel
theorem dst_100 : decode prog_148_method_2_code 100 = .ok (.return_, 1) := by decide +kernel
theorem ef_st (mI : MethodId) (t : Addr) (pq : Int32) (no : Addr) (lo : Int64) (hi : Int64) (ts : Addr) : entryFrame mI #[(.ref t), (.int pq), (.ref no), (.long (0 : Int64)), (.long (0 : Int64)), (.long lo), (.long hi), (.ref ts)] 15 = mkF mI 0 #[.val (.ref t), .val (.int pq), .val (.ref no), .val (.long (0 : Int64)), .second, .val (.long (0 : Int64)), .second, .val (.long lo), .second, .val (.long hi), .second, .val (.ref ts), .unset, .unset, .unset] [] := by first | (simp [entryFrame, mkF, argsToLocals, Value.category]; done) | rfl
theorem pn_st : plainName own_ST = true := by first | decide +kernel | (simp [plainName, overriddenIn]; done)
set_option maxRecDepth 65536 in
set_option maxHeartbeats 40000000 in
theorem rmst (lL : Launch) (Z : State) (a0 : Array Value) (hw : ∀ d ∈ tables_1, d.before a0 Z = true) (ws : List Jvm.Cond) (t : Addr) (pq : Int32) (no : Addr) (lo : Int64) (hi : Int64) (ts : Addr) (k_no : ClassId) (h0 : Heap) (n0 : Nat) (Z0 : n0 ≤ h0.size) (F_windows_t : Fld Z h0 t own_ST "windows" "I" (.int (0 : Int32))) (F_places_t : Fld Z h0 t own_ST "places" "I" (.int (0 : Int32))) (F_total_t : Fld Z h0 t own_ST "total" "J" (.long (0 : Int64))) (F_low_t : Fld Z h0 t own_ST "low" "J" (.long (0 : Int64))) (F_ownBytes_t : Fld Z h0 t own_ST "ownBytes" "J" (.long (0 : Int64))) (F_high_t : Fld Z h0 t own_ST "high" "J" (.long (0 : Int64))) (F_set_t : Fld Z h0 t own_ST "set" own_dTS .null) (F_firstRun_t : Fld Z h0 t own_ST "firstRun" own_dRUN .null) (F_kept_t : Fld Z h0 t own_ST "kept" "Z" (.int (0 : Int32))) (F_keptLeft_t : Fld Z h0 t own_ST "keptLeft" own_dST .null) (F_keptRight_t : Fld Z h0 t own_ST "keptRight" own_dST .null) (E_t : Exa Z h0 t own_ST) (le_n0_t : n0 ≤ t) (V_no : Arv Z h0 no k_no .int (0 : Int32) [] (.int (0 : Int32))) :
    MetFree lL (⟨own_ST, "<init>", "(I[IJJJJLcom/example/tierfold/tierfold/tiered/TailSet;)V"⟩ : MethodName) (head1 (Jvm.Cond.code (⟨own_ST, "<init>", "(I[IJJJJLcom/example/tierfold/tierfold/tiered/TailSet;)V"⟩ : MethodName) prog_148_method_2_code 15 none :: ws) ({ frames := 1, cells := 0, slots := 0, locals := 12 } : Room)) (fun a_ U_ => a_ = #[(.ref t), (.int pq), (.ref no), (.long (0 : Int64)), (.long (0 : Int64)), (.long lo), (.long hi), (.ref ts)] ∧ Z.Warmed39 U_.vm ∧ U_.heap = h0) (fun _ _ _ _ _ => True) (fun _ U_ o_ W_ => ∃ v_ L_, o_ = .returned v_ ∧ own_Qse Z t .null .null pq lo hi h0 n0 v_ W_.heap L_ ∧ FrameEnd U_ o_ W_ L_ ({ frames := 1, cells := 0, slots := 0, locals := 12 } : Room).cells ({ frames := 1, cells := 0, slots := 0, locals := 12 } : Room).slots) := by
  refine MetFree.of_bodySF (plainFor_of_name pn_st) hisR ?_
  intro pP eE sS mI args below meth cC s₁ Bd hml0 hP hK
  obtain ⟨rfl, hZ, hh⟩ := hP
  have hx := Bd.exec
  have hby := Bd.bytes
  have hml : cC.maxLocals = 15 := hml0
  have hown : sS.vm.findClass own_ST = some mI.cls := by have z := findClass_of_methodNamed Bd.named; exact z
  have hnm := (name_of_methodNamed Bd.named Bd.method).1
  have X0 : Stand pP lL eE ({ frames := 1, cells := 0, slots := 0, locals := 12 } : Room) sS mI #[(.ref t), (.int pq), (.ref no), (.long (0 : Int64)), (.long (0 : Int64)), (.long lo), (.long hi), (.ref ts)] below meth cC s₁ [] 0 0 := Stand.of_body Bd
  have e0 : s₁.heap = h0 := by rw [← hh, Bd.state]; rfl
  have N0 := Fr.nil n0
  obtain ⟨G, hG, hst, hend⟩ := own_abs pP eE below sS (own_Qse Z t .null .null pq lo hi h0 n0) ({ frames := 1, cells := 0, slots := 0, locals := 12 } : Room).cells ({ frames := 1, cells := 0, slots := 0, locals := 12 } : Room).slots
  refine hG (S := s₁.setTop (entryFrame mI #[(.ref t), (.int pq), (.ref no), (.long (0 : Int64)), (.long (0 : Int64)), (.long lo), (.long hi), (.ref ts)] 15)) (hst (fun t_ kt_ => castTop (ef_st mI t pq no lo hi ts) kt_) ?_)
  have Z1 := Nat.le_refl h0.size
  have K0 := Keep.refl h0 [t]
  show G (s₁.setTop (mkF mI 0 #[.val (.ref t), .val (.int pq), .val (.ref no), .val (.long (0 : Int64)), .second, .val (.long (0 : Int64)), .second, .val (.long lo), .second, .val (.long hi), .second, .val (.ref ts), .unset, .unset, .unset] []))
  refine o_aloadN hst X0.here hx (hb hby dst_0) (pc' := 1) rfl rfl rfl ?_
  obtain ⟨T_1, X_1, e_1, st_1⟩ := initO X0 hx hZ hown (own_w104 hw) (own_w20 hw) (own_w21 hw) e0 (g := (mkF mI 1 #[.val (.ref t), .val (.int pq), .val (.ref no), .val (.long (0 : Int64)), .second, .val (.long (0 : Int64)), .second, .val (.long lo), .second, .val (.long hi), .second, .val (.ref ts), .unset, .unset, .unset] [(.ref t)])) rfl (by rw [hml]; rfl) rfl (hb hby dst_1) (by decide) (W := 0) (by show 2 * 0 + _ ≤ _; exact Nat.le_of_eq rfl) (by decide)
  refine hst st_1 ?_
  show G (T_1.setTop (mkF mI 4 #[.val (.ref t), .val (.int pq), .val (.ref no), .val (.long (0 : Int64)), .second, .val (.long (0 : Int64)), .second, .val (.long lo), .second, .val (.long hi), .second, .val (.ref ts), .unset, .unset, .unset] []))
  refine o_aloadN hst X_1.here hx (hb hby dst_4) (pc' := 5) rfl rfl rfl ?_
  refine o_iconst hst X_1.here hx (hb hby dst_5) (pc' := 6) rfl (z := (-1 : Int32)) rfl ?_
  obtain ⟨T_2, h_2, X_2, e_2, W_2, st_2⟩ := putF X_1 hx hZ hown (host := "") (Or.inl (own_w105 hw)) Via.refl e_1 F_windows_t E_t (Or.inl (own_w106 hw)) (own_w99 hw) (ty := .int) (by decide) rfl rfl (g := (mkF mI 6 #[.val (.ref t), .val (.int pq), .val (.ref no), .val (.long (0 : Int64)), .second, .val (.long (0 : Int64)), .second, .val (.long lo), .second, .val (.long hi), .second, .val (.ref ts), .unset, .unset, .unset] [(.int (-1 : Int32)), (.ref t)])) rfl rfl (hb hby dst_6)
  have ne_no_t : no ≠ t := Ne.symm (own_ne_arv E_t (own_w99 hw) V_no)
  have Z0 := Nat.le_trans Z0 (Keep.of_wr W_2).1
  have Z1 := Nat.le_trans Z1 (Keep.of_wr W_2).1
  have K0 := K0.wr W_2 (Or.inl (List.mem_of_getElem? (i := 0) rfl))
  have F_windows_t := F_windows_t.same W_2
  have F_places_t := F_places_t.other W_2 (Or.inr (slot_ne (Or.inr (own_w108 hw)) (Or.inl (own_w106 hw)) (by decide) (t := .int) (t' := .int) (by decide) (by decide)))
  have F_total_t := F_total_t.other W_2 (Or.inr (slot_ne (Or.inr (own_w110 hw)) (Or.inl (own_w106 hw)) (by decide) (t := .long) (t' := .int) (by decide) (by decide)))
  have F_low_t := F_low_t.other W_2 (Or.inr (slot_ne (Or.inr (own_w112 hw)) (Or.inl (own_w106 hw)) (by decide) (t := .long) (t' := .int) (by decide) (by decide)))
  have F_ownBytes_t := F_ownBytes_t.other W_2 (Or.inr (slot_ne (Or.inr (own_w114 hw)) (Or.inl (own_w106 hw)) (by decide) (t := .long) (t' := .int) (by decide) (by decide)))
  have F_high_t := F_high_t.other W_2 (Or.inr (slot_ne (Or.inl (own_w116 hw)) (Or.inl (own_w106 hw)) (by decide) (t := .long) (t' := .int) (by decide) (by decide)))
  have F_set_t := F_set_t.other W_2 (Or.inr (slot_ne (Or.inr (own_w118 hw)) (Or.inl (own_w106 hw)) (by decide) (t := (.object own_TS)) (t' := .int) (by decide) (by decide)))
  have F_firstRun_t := F_firstRun_t.other W_2 (Or.inr (slot_ne (Or.inr (own_w120 hw)) (Or.inl (own_w106 hw)) (by decide) (t := (.object own_RUN)) (t' := .int) (by decide) (by decide)))
  have F_kept_t := F_kept_t.other W_2 (Or.inr (slot_ne (Or.inl (own_w132 hw)) (Or.inl (own_w106 hw)) (by decide) (t := .boolean) (t' := .int) (by decide) (by decide)))
  have F_keptLeft_t := F_keptLeft_t.other W_2 (Or.inr (slot_ne (Or.inl (own_w176 hw)) (Or.inl (own_w106 hw)) (by decide) (t := (.object own_ST)) (t' := .int) (by decide) (by decide)))
  have F_keptRight_t := F_keptRight_t.other W_2 (Or.inr (slot_ne (Or.inl (own_w151 hw)) (Or.inl (own_w106 hw)) (by decide) (t := (.object own_ST)) (t' := .int) (by decide) (by decide)))
  have E_t := E_t.wr W_2
  have V_no := V_no.other W_2 ne_no_t
  have N_2 := Fr.snoc X_2 N0 le_n0_t
  refine hst st_2 ?_
  show G (T_2.setTop (mkF mI 9 #[.val (.ref t), .val (.int pq), .val (.ref no), .val (.long (0 : Int64)), .second, .val (.long (0 : Int64)), .second, .val (.long lo), .second, .val (.long hi), .second, .val (.ref ts), .unset, .unset, .unset] []))
  refine o_aloadN hst X_2.here hx (hb hby dst_9) (pc' := 10) rfl rfl rfl ?_
  refine o_iloadN hst X_2.here hx (hb hby dst_10) (pc' := 11) rfl rfl ?_
  obtain ⟨T_3, h_3, X_3, e_3, W_3, st_3⟩ := putF X_2 hx hZ hown (host := "") (Or.inl (own_w107 hw)) Via.refl e_2 F_places_t E_t (Or.inr ⟨(own_w108 hw), rfl, hnm⟩) (own_w99 hw) (ty := .int) (by decide) rfl rfl (g := (mkF mI 11 #[.val (.ref t), .val (.int pq), .val (.ref no), .val (.long (0 : Int64)), .second, .val (.long (0 : Int64)), .second, .val (.long lo), .second, .val (.long hi), .second, .val (.ref ts), .unset, .unset, .unset] [(.int pq), (.ref t)])) rfl rfl (hb hby dst_11)
  have Z0 := Nat.le_trans Z0 (Keep.of_wr W_3).1
  have Z1 := Nat.le_trans Z1 (Keep.of_wr W_3).1
  have K0 := K0.wr W_3 (Or.inl (List.mem_of_getElem? (i := 0) rfl))
  have F_places_t := F_places_t.same W_3
  have F_total_t := F_total_t.other W_3 (Or.inr (slot_ne (Or.inr (own_w110 hw)) (Or.inr (own_w108 hw)) (by decide) (t := .long) (t' := .int) (by decide) (by decide)))
  have F_low_t := F_low_t.other W_3 (Or.inr (slot_ne (Or.inr (own_w112 hw)) (Or.inr (own_w108 hw)) (by decide) (t := .long) (t' := .int) (by decide) (by decide)))
  have F_ownBytes_t := F_ownBytes_t.other W_3 (Or.inr (slot_ne (Or.inr (own_w114 hw)) (Or.inr (own_w108 hw)) (by decide) (t := .long) (t' := .int) (by decide) (by decide)))
  have F_high_t := F_high_t.other W_3 (Or.inr (slot_ne (Or.inl (own_w116 hw)) (Or.inr (own_w108 hw)) (by decide) (t := .long) (t' := .int) (by decide) (by decide)))
  have F_set_t := F_set_t.other W_3 (Or.inr (slot_ne (Or.inr (own_w118 hw)) (Or.inr (own_w108 hw)) (by decide) (t := (.object own_TS)) (t' := .int) (by decide) (by decide)))
  have F_firstRun_t := F_firstRun_t.other W_3 (Or.inr (slot_ne (Or.inr (own_w120 hw)) (Or.inr (own_w108 hw)) (by decide) (t := (.object own_RUN)) (t' := .int) (by decide) (by decide)))
  have F_kept_t := F_kept_t.other W_3 (Or.inr (slot_ne (Or.inl (own_w132 hw)) (Or.inr (own_w108 hw)) (by decide) (t := .boolean) (t' := .int) (by decide) (by decide)))
  have F_keptLeft_t := F_keptLeft_t.other W_3 (Or.inr (slot_ne (Or.inl (own_w176 hw)) (Or.inr (own_w108 hw)) (by decide) (t := (.object own_ST)) (t' := .int) (by decide) (by decide)))
  have F_keptRight_t := F_keptRight_t.other W_3 (Or.inr (slot_ne (Or.inl (own_w151 hw)) (Or.inr (own_w108 hw)) (by decide) (t := (.object own_ST)) (t' := .int) (by decide) (by decide)))
  have E_t := E_t.wr W_3
  have V_no := V_no.other W_3 ne_no_t
  have N_3 := Fr.snoc X_3 N_2 le_n0_t
  refine hst st_3 ?_
  show G (T_3.setTop (mkF mI 14 #[.val (.ref t), .val (.int pq), .val (.ref no), .val (.long (0 : Int64)), .second, .val (.long (0 : Int64)), .second, .val (.long lo), .second, .val (.long hi), .second, .val (.ref ts), .unset, .unset, .unset] []))
  refine o_aloadN hst X_3.here hx (hb hby dst_14) (pc' := 15) rfl rfl rfl ?_
  refine o_lloadN hst X_3.here hx (hb hby dst_15) (pc' := 16) rfl rfl ?_
  obtain ⟨T_4, h_4, X_4, e_4, W_4, st_4⟩ := putF X_3 hx hZ hown (host := "") (Or.inl (own_w109 hw)) Via.refl e_3 F_total_t E_t (Or.inr ⟨(own_w110 hw), rfl, hnm⟩) (own_w99 hw) (ty := .long) (by decide) rfl rfl (g := (mkF mI 16 #[.val (.ref t), .val (.int pq), .val (.ref no), .val (.long (0 : Int64)), .second, .val (.long (0 : Int64)), .second, .val (.long lo), .second, .val (.long hi), .second, .val (.ref ts), .unset, .unset, .unset] [(.long (0 : Int64)), (.ref t)])) rfl rfl (hb hby dst_16)
  have Z0 := Nat.le_trans Z0 (Keep.of_wr W_4).1
  have Z1 := Nat.le_trans Z1 (Keep.of_wr W_4).1
  have K0 := K0.wr W_4 (Or.inl (List.mem_of_getElem? (i := 0) rfl))
  have F_places_t := F_places_t.other W_4 (Or.inr (slot_ne (Or.inr (own_w108 hw)) (Or.inr (own_w110 hw)) (by decide) (t := .int) (t' := .long) (by decide) (by decide)))
  have F_total_t := F_total_t.same W_4
  have F_low_t := F_low_t.other W_4 (Or.inr (slot_ne (Or.inr (own_w112 hw)) (Or.inr (own_w110 hw)) (by decide) (t := .long) (t' := .long) (by decide) (by decide)))
  have F_ownBytes_t := F_ownBytes_t.other W_4 (Or.inr (slot_ne (Or.inr (own_w114 hw)) (Or.inr (own_w110 hw)) (by decide) (t := .long) (t' := .long) (by decide) (by decide)))
  have F_high_t := F_high_t.other W_4 (Or.inr (slot_ne (Or.inl (own_w116 hw)) (Or.inr (own_w110 hw)) (by decide) (t := .long) (t' := .long) (by decide) (by decide)))
  have F_set_t := F_set_t.other W_4 (Or.inr (slot_ne (Or.inr (own_w118 hw)) (Or.inr (own_w110 hw)) (by decide) (t := (.object own_TS)) (t' := .long) (by decide) (by decide)))
  have F_firstRun_t := F_firstRun_t.other W_4 (Or.inr (slot_ne (Or.inr (own_w120 hw)) (Or.inr (own_w110 hw)) (by decide) (t := (.object own_RUN)) (t' := .long) (by decide) (by decide)))
  have F_kept_t := F_kept_t.other W_4 (Or.inr (slot_ne (Or.inl (own_w132 hw)) (Or.inr (own_w110 hw)) (by decide) (t := .boolean) (t' := .long) (by decide) (by decide)))
  have F_keptLeft_t := F_keptLeft_t.other W_4 (Or.inr (slot_ne (Or.inl (own_w176 hw)) (Or.inr (own_w110 hw)) (by decide) (t := (.object own_ST)) (t' := .long) (by decide) (by decide)))
  have F_keptRight_t := F_keptRight_t.other W_4 (Or.inr (slot_ne (Or.inl (own_w151 hw)) (Or.inr (own_w110 hw)) (by decide) (t := (.object own_ST)) (t' := .long) (by decide) (by decide)))
  have E_t := E_t.wr W_4
  have V_no := V_no.other W_4 ne_no_t
  have N_4 := Fr.snoc X_4 N_3 le_n0_t
  refine hst st_4 ?_
  show G (T_4.setTop (mkF mI 19 #[.val (.ref t), .val (.int pq), .val (.ref no), .val (.long (0 : Int64)), .second, .val (.long (0 : Int64)), .second, .val (.long lo), .second, .val (.long hi), .second, .val (.ref ts), .unset, .unset, .unset] []))
  refine o_aloadN hst X_4.here hx (hb hby dst_19) (pc' := 20) rfl rfl rfl ?_
  refine o_lload hst X_4.here hx (hb hby dst_20) (pc' := 22) rfl rfl ?_
  obtain ⟨T_5, h_5, X_5, e_5, W_5, st_5⟩ := putF X_4 hx hZ hown (host := "") (Or.inl (own_w111 hw)) Via.refl e_4 F_low_t E_t (Or.inr ⟨(own_w112 hw), rfl, hnm⟩) (own_w99 hw) (ty := .long) (by decide) rfl rfl (g := (mkF mI 22 #[.val (.ref t), .val (.int pq), .val (.ref no), .val (.long (0 : Int64)), .second, .val (.long (0 : Int64)), .second, .val (.long lo), .second, .val (.long hi), .second, .val (.ref ts), .unset, .unset, .unset] [(.long lo), (.ref t)])) rfl rfl (hb hby dst_22)
  have Z0 := Nat.le_trans Z0 (Keep.of_wr W_5).1
  have Z1 := Nat.le_trans Z1 (Keep.of_wr W_5).1
  have K0 := K0.wr W_5 (Or.inl (List.mem_of_getElem? (i := 0) rfl))
  have F_places_t := F_places_t.other W_5 (Or.inr (slot_ne (Or.inr (own_w108 hw)) (Or.inr (own_w112 hw)) (by decide) (t := .int) (t' := .long) (by decide) (by decide)))
  have F_low_t := F_low_t.same W_5
  have F_ownBytes_t := F_ownBytes_t.other W_5 (Or.inr (slot_ne (Or.inr (own_w114 hw)) (Or.inr (own_w112 hw)) (by decide) (t := .long) (t' := .long) (by decide) (by decide)))
  have F_high_t := F_high_t.other W_5 (Or.inr (slot_ne (Or.inl (own_w116 hw)) (Or.inr (own_w112 hw)) (by decide) (t := .long) (t' := .long) (by decide) (by decide)))
  have F_set_t := F_set_t.other W_5 (Or.inr (slot_ne (Or.inr (own_w118 hw)) (Or.inr (own_w112 hw)) (by decide) (t := (.object own_TS)) (t' := .long) (by decide) (by decide)))
  have F_firstRun_t := F_firstRun_t.other W_5 (Or.inr (slot_ne (Or.inr (own_w120 hw)) (Or.inr (own_w112 hw)) (by decide) (t := (.object own_RUN)) (t' := .long) (by decide) (by decide)))
  have F_kept_t := F_kept_t.other W_5 (Or.inr (slot_ne (Or.inl (own_w132 hw)) (Or.inr (own_w112 hw)) (by decide) (t := .boolean) (t' := .long) (by decide) (by decide)))
  have F_keptLeft_t := F_keptLeft_t.other W_5 (Or.inr (slot_ne (Or.inl (own_w176 hw)) (Or.inr (own_w112 hw)) (by decide) (t := (.object own_ST)) (t' := .long) (by decide) (by decide)))
  have F_keptRight_t := F_keptRight_t.other W_5 (Or.inr (slot_ne (Or.inl (own_w151 hw)) (Or.inr (own_w112 hw)) (by decide) (t := (.object own_ST)) (t' := .long) (by decide) (by decide)))
  have E_t := E_t.wr W_5
  have V_no := V_no.other W_5 ne_no_t
  have N_5 := Fr.snoc X_5 N_4 le_n0_t
  refine hst st_5 ?_
  show G (T_5.setTop (mkF mI 25 #[.val (.ref t), .val (.int pq), .val (.ref no), .val (.long (0 : Int64)), .second, .val (.long (0 : Int64)), .second, .val (.long lo), .second, .val (.long hi), .second, .val (.ref ts), .unset, .unset, .unset] []))
  refine o_aloadN hst X_5.here hx (hb hby dst_25) (pc' := 26) rfl rfl rfl ?_
  refine o_lload hst X_5.here hx (hb hby dst_26) (pc' := 28) rfl rfl ?_
  obtain ⟨T_6, h_6, X_6, e_6, W_6, st_6⟩ := putF X_5 hx hZ hown (host := "") (Or.inl (own_w113 hw)) Via.refl e_5 F_ownBytes_t E_t (Or.inr ⟨(own_w114 hw), rfl, hnm⟩) (own_w99 hw) (ty := .long) (by decide) rfl rfl (g := (mkF mI 28 #[.val (.ref t), .val (.int pq), .val (.ref no), .val (.long (0 : Int64)), .second, .val (.long (0 : Int64)), .second, .val (.long lo), .second, .val (.long hi), .second, .val (.ref ts), .unset, .unset, .unset] [(.long (0 : Int64)), (.ref t)])) rfl rfl (hb hby dst_28)
  have Z0 := Nat.le_trans Z0 (Keep.of_wr W_6).1
  have Z1 := Nat.le_trans Z1 (Keep.of_wr W_6).1
  have K0 := K0.wr W_6 (Or.inl (List.mem_of_getElem? (i := 0) rfl))
  have F_places_t := F_places_t.other W_6 (Or.inr (slot_ne (Or.inr (own_w108 hw)) (Or.inr (own_w114 hw)) (by decide) (t := .int) (t' := .long) (by decide) (by decide)))
  have F_low_t := F_low_t.other W_6 (Or.inr (slot_ne (Or.inr (own_w112 hw)) (Or.inr (own_w114 hw)) (by decide) (t := .long) (t' := .long) (by decide) (by decide)))
  have F_ownBytes_t := F_ownBytes_t.same W_6
  have F_high_t := F_high_t.other W_6 (Or.inr (slot_ne (Or.inl (own_w116 hw)) (Or.inr (own_w114 hw)) (by decide) (t := .long) (t' := .long) (by decide) (by decide)))
  have F_set_t := F_set_t.other W_6 (Or.inr (slot_ne (Or.inr (own_w118 hw)) (Or.inr (own_w114 hw)) (by decide) (t := (.object own_TS)) (t' := .long) (by decide) (by decide)))
  have F_firstRun_t := F_firstRun_t.other W_6 (Or.inr (slot_ne (Or.inr (own_w120 hw)) (Or.inr (own_w114 hw)) (by decide) (t := (.object own_RUN)) (t' := .long) (by decide) (by decide)))
  have F_kept_t := F_kept_t.other W_6 (Or.inr (slot_ne (Or.inl (own_w132 hw)) (Or.inr (own_w114 hw)) (by decide) (t := .boolean) (t' := .long) (by decide) (by decide)))
  have F_keptLeft_t := F_keptLeft_t.other W_6 (Or.inr (slot_ne (Or.inl (own_w176 hw)) (Or.inr (own_w114 hw)) (by decide) (t := (.object own_ST)) (t' := .long) (by decide) (by decide)))
  have F_keptRight_t := F_keptRight_t.other W_6 (Or.inr (slot_ne (Or.inl (own_w151 hw)) (Or.inr (own_w114 hw)) (by decide) (t := (.object own_ST)) (t' := .long) (by decide) (by decide)))
  have E_t := E_t.wr W_6
  have V_no := V_no.other W_6 ne_no_t
  have N_6 := Fr.snoc X_6 N_5 le_n0_t
  refine hst st_6 ?_
  show G (T_6.setTop (mkF mI 31 #[.val (.ref t), .val (.int pq), .val (.ref no), .val (.long (0 : Int64)), .second, .val (.long (0 : Int64)), .second, .val (.long lo), .second, .val (.long hi), .second, .val (.ref ts), .unset, .unset, .unset] []))
  refine o_aloadN hst X_6.here hx (hb hby dst_31) (pc' := 32) rfl rfl rfl ?_
  refine o_lload hst X_6.here hx (hb hby dst_32) (pc' := 34) rfl rfl ?_
  obtain ⟨T_7, h_7, X_7, e_7, W_7, st_7⟩ := putF X_6 hx hZ hown (host := "") (Or.inl (own_w115 hw)) Via.refl e_6 F_high_t E_t (Or.inl (own_w116 hw)) (own_w99 hw) (ty := .long) (by decide) rfl rfl (g := (mkF mI 34 #[.val (.ref t), .val (.int pq), .val (.ref no), .val (.long (0 : Int64)), .second, .val (.long (0 : Int64)), .second, .val (.long lo), .second, .val (.long hi), .second, .val (.ref ts), .unset, .unset, .unset] [(.long hi), (.ref t)])) rfl rfl (hb hby dst_34)
  have Z0 := Nat.le_trans Z0 (Keep.of_wr W_7).1
  have Z1 := Nat.le_trans Z1 (Keep.of_wr W_7).1
  have K0 := K0.wr W_7 (Or.inl (List.mem_of_getElem? (i := 0) rfl))
  have F_places_t := F_places_t.other W_7 (Or.inr (slot_ne (Or.inr (own_w108 hw)) (Or.inl (own_w116 hw)) (by decide) (t := .int) (t' := .long) (by decide) (by decide)))
  have F_low_t := F_low_t.other W_7 (Or.inr (slot_ne (Or.inr (own_w112 hw)) (Or.inl (own_w116 hw)) (by decide) (t := .long) (t' := .long) (by decide) (by decide)))
  have F_high_t := F_high_t.same W_7
  have F_set_t := F_set_t.other W_7 (Or.inr (slot_ne (Or.inr (own_w118 hw)) (Or.inl (own_w116 hw)) (by decide) (t := (.object own_TS)) (t' := .long) (by decide) (by decide)))
  have F_firstRun_t := F_firstRun_t.other W_7 (Or.inr (slot_ne (Or.inr (own_w120 hw)) (Or.inl (own_w116 hw)) (by decide) (t := (.object own_RUN)) (t' := .long) (by decide) (by decide)))
  have F_kept_t := F_kept_t.other W_7 (Or.inr (slot_ne (Or.inl (own_w132 hw)) (Or.inl (own_w116 hw)) (by decide) (t := .boolean) (t' := .long) (by decide) (by decide)))
  have F_keptLeft_t := F_keptLeft_t.other W_7 (Or.inr (slot_ne (Or.inl (own_w176 hw)) (Or.inl (own_w116 hw)) (by decide) (t := (.object own_ST)) (t' := .long) (by decide) (by decide)))
  have F_keptRight_t := F_keptRight_t.other W_7 (Or.inr (slot_ne (Or.inl (own_w151 hw)) (Or.inl (own_w116 hw)) (by decide) (t := (.object own_ST)) (t' := .long) (by decide) (by decide)))
  have E_t := E_t.wr W_7
  have V_no := V_no.other W_7 ne_no_t
  have N_7 := Fr.snoc X_7 N_6 le_n0_t
  refine hst st_7 ?_
  show G (T_7.setTop (mkF mI 37 #[.val (.ref t), .val (.int pq), .val (.ref no), .val (.long (0 : Int64)), .second, .val (.long (0 : Int64)), .second, .val (.long lo), .second, .val (.long hi), .second, .val (.ref ts), .unset, .unset, .unset] []))
  refine o_aloadN hst X_7.here hx (hb hby dst_37) (pc' := 38) rfl rfl rfl ?_
  refine o_aload hst X_7.here hx (hb hby dst_38) (pc' := 40) rfl rfl rfl ?_
  obtain ⟨T_8, h_8, X_8, e_8, W_8, st_8⟩ := putF X_7 hx hZ hown (host := "") (Or.inl (own_w117 hw)) Via.refl e_7 F_set_t E_t (Or.inr ⟨(own_w118 hw), rfl, hnm⟩) (own_w99 hw) (ty := (.object own_TS)) (by decide) rfl rfl (g := (mkF mI 40 #[.val (.ref t), .val (.int pq), .val (.ref no), .val (.long (0 : Int64)), .second, .val (.long (0 : Int64)), .second, .val (.long lo), .second, .val (.long hi), .second, .val (.ref ts), .unset, .unset, .unset] [(.ref ts), (.ref t)])) rfl rfl (hb hby dst_40)
  have Z0 := Nat.le_trans Z0 (Keep.of_wr W_8).1
  have Z1 := Nat.le_trans Z1 (Keep.of_wr W_8).1
  have K0 := K0.wr W_8 (Or.inl (List.mem_of_getElem? (i := 0) rfl))
  have F_places_t := F_places_t.other W_8 (Or.inr (slot_ne (Or.inr (own_w108 hw)) (Or.inr (own_w118 hw)) (by decide) (t := .int) (t' := (.object own_TS)) (by decide) (by decide)))
  have F_low_t := F_low_t.other W_8 (Or.inr (slot_ne (Or.inr (own_w112 hw)) (Or.inr (own_w118 hw)) (by decide) (t := .long) (t' := (.object own_TS)) (by decide) (by decide)))
  have F_high_t := F_high_t.other W_8 (Or.inr (slot_ne (Or.inl (own_w116 hw)) (Or.inr (own_w118 hw)) (by decide) (t := .long) (t' := (.object own_TS)) (by decide) (by decide)))
  have F_set_t := F_set_t.same W_8
  have F_firstRun_t := F_firstRun_t.other W_8 (Or.inr (slot_ne (Or.inr (own_w120 hw)) (Or.inr (own_w118 hw)) (by decide) (t := (.object own_RUN)) (t' := (.object own_TS)) (by decide) (by decide)))
  have F_kept_t := F_kept_t.other W_8 (Or.inr (slot_ne (Or.inl (own_w132 hw)) (Or.inr (own_w118 hw)) (by decide) (t := .boolean) (t' := (.object own_TS)) (by decide) (by decide)))
  have F_keptLeft_t := F_keptLeft_t.other W_8 (Or.inr (slot_ne (Or.inl (own_w176 hw)) (Or.inr (own_w118 hw)) (by decide) (t := (.object own_ST)) (t' := (.object own_TS)) (by decide) (by decide)))
  have F_keptRight_t := F_keptRight_t.other W_8 (Or.inr (slot_ne (Or.inl (own_w151 hw)) (Or.inr (own_w118 hw)) (by decide) (t := (.object own_ST)) (t' := (.object own_TS)) (by decide) (by decide)))
  have E_t := E_t.wr W_8
  have V_no := V_no.other W_8 ne_no_t
  have N_8 := Fr.snoc X_8 N_7 le_n0_t
  refine hst st_8 ?_
  show G (T_8.setTop (mkF mI 43 #[.val (.ref t), .val (.int pq), .val (.ref no), .val (.long (0 : Int64)), .second, .val (.long (0 : Int64)), .second, .val (.long lo), .second, .val (.long hi), .second, .val (.ref ts), .unset, .unset, .unset] []))
  refine o_aconstNull hst X_8.here hx (hb hby dst_43) (pc' := 44) rfl ?_
  refine o_astore hst X_8.here hx (hb hby dst_44) (pc' := 46) rfl (Lt := #[.val (.ref t), .val (.int pq), .val (.ref no), .val (.long (0 : Int64)), .second, .val (.long (0 : Int64)), .second, .val (.long lo), .second, .val (.long hi), .second, .val (.ref ts), .val .null, .unset, .unset]) rfl rfl ?_
  refine o_aloadN hst X_8.here hx (hb hby dst_46) (pc' := 47) rfl rfl rfl ?_
  obtain ⟨cl_9, Ar_9, -, S_9, M_9, -, -⟩ := id V_no
  refine hst (X_8.arraylength hx (by rw [e_8]; exact Ar_9.1) (State.isArrayOf_alike hZ.alike Ar_9.2.1) (g := (mkF mI 47 #[.val (.ref t), .val (.int pq), .val (.ref no), .val (.long (0 : Int64)), .second, .val (.long (0 : Int64)), .second, .val (.long lo), .second, .val (.long hi), .second, .val (.ref ts), .val .null, .unset, .unset] [(.ref no)])) rfl rfl (hb hby dst_47)) ?_
  rw [len_of S_9 M_9]
  show G (T_8.setTop (mkF mI 48 #[.val (.ref t), .val (.int pq), .val (.ref no), .val (.long (0 : Int64)), .second, .val (.long (0 : Int64)), .second, .val (.long lo), .second, .val (.long hi), .second, .val (.ref ts), .val .null, .unset, .unset] [(.int (0 : Int32))]))
  refine o_iconst hst X_8.here hx (hb hby dst_48) (pc' := 49) rfl (z := (2 : Int32)) rfl ?_
  refine o_isub hst X_8.here hx (hb hby dst_49) (pc' := 50) rfl ?_
  rw [show ((0 : Int32) - (2 : Int32)) = (-2 : Int32) from by decide]
  show G (T_8.setTop (mkF mI 50 #[.val (.ref t), .val (.int pq), .val (.ref no), .val (.long (0 : Int64)), .second, .val (.long (0 : Int64)), .second, .val (.long lo), .second, .val (.long hi), .second, .val (.ref ts), .val .null, .unset, .unset] [(.int (-2 : Int32))]))
  refine o_istore hst X_8.here hx (hb hby dst_50) (pc' := 52) rfl (Lt := #[.val (.ref t), .val (.int pq), .val (.ref no), .val (.long (0 : Int64)), .second, .val (.long (0 : Int64)), .second, .val (.long lo), .second, .val (.long hi), .second, .val (.ref ts), .val .null, .val (.int (-2 : Int32)), .unset]) rfl ?_
  refine o_iload hst X_8.here hx (hb hby dst_52) (pc' := 54) rfl rfl ?_
  have hc54 : (-2 : Int32) < (0 : Int32) := by decide
  refine hst (fun _ kt => XS.ifYes X_8.here hx rfl (pc0 := 54) (pc' := 94) rfl (hb hby dst_54) rfl ((if0 _ _).trans (tlt hc54).1) (by decide) (by decide) kt) ?_
  show G (T_8.setTop (mkF mI 94 #[.val (.ref t), .val (.int pq), .val (.ref no), .val (.long (0 : Int64)), .second, .val (.long (0 : Int64)), .second, .val (.long lo), .second, .val (.long hi), .second, .val (.ref ts), .val .null, .val (.int (-2 : Int32)), .unset] []))
  refine o_aloadN hst X_8.here hx (hb hby dst_94) (pc' := 95) rfl rfl rfl ?_
  refine o_aload hst X_8.here hx (hb hby dst_95) (pc' := 97) rfl rfl rfl ?_
  obtain ⟨T_10, h_10, X_10, e_10, W_10, st_10⟩ := putF X_8 hx hZ hown (host := "") (Or.inl (own_w119 hw)) Via.refl e_8 F_firstRun_t E_t (Or.inr ⟨(own_w120 hw), rfl, hnm⟩) (own_w99 hw) (ty := (.object own_RUN)) (by decide) rfl rfl (g := (mkF mI 97 #[.val (.ref t), .val (.int pq), .val (.ref no), .val (.long (0 : Int64)), .second, .val (.long (0 : Int64)), .second, .val (.long lo), .second, .val (.long hi), .second, .val (.ref ts), .val .null, .val (.int (-2 : Int32)), .unset] [.null, (.ref t)])) rfl rfl (hb hby dst_97)
  have Z0 := Nat.le_trans Z0 (Keep.of_wr W_10).1
  have Z1 := Nat.le_trans Z1 (Keep.of_wr W_10).1
  have K0 := K0.wr W_10 (Or.inl (List.mem_of_getElem? (i := 0) rfl))
  have F_places_t := F_places_t.other W_10 (Or.inr (slot_ne (Or.inr (own_w108 hw)) (Or.inr (own_w120 hw)) (by decide) (t := .int) (t' := (.object own_RUN)) (by decide) (by decide)))
  have F_low_t := F_low_t.other W_10 (Or.inr (slot_ne (Or.inr (own_w112 hw)) (Or.inr (own_w120 hw)) (by decide) (t := .long) (t' := (.object own_RUN)) (by decide) (by decide)))
  have F_high_t := F_high_t.other W_10 (Or.inr (slot_ne (Or.inl (own_w116 hw)) (Or.inr (own_w120 hw)) (by decide) (t := .long) (t' := (.object own_RUN)) (by decide) (by decide)))
  have F_firstRun_t := F_firstRun_t.same W_10
  have F_kept_t := F_kept_t.other W_10 (Or.inr (slot_ne (Or.inl (own_w132 hw)) (Or.inr (own_w120 hw)) (by decide) (t := .boolean) (t' := (.object own_RUN)) (by decide) (by decide)))
  have F_keptLeft_t := F_keptLeft_t.other W_10 (Or.inr (slot_ne (Or.inl (own_w176 hw)) (Or.inr (own_w120 hw)) (by decide) (t := (.object own_ST)) (t' := (.object own_RUN)) (by decide) (by decide)))
  have F_keptRight_t := F_keptRight_t.other W_10 (Or.inr (slot_ne (Or.inl (own_w151 hw)) (Or.inr (own_w120 hw)) (by decide) (t := (.object own_ST)) (t' := (.object own_RUN)) (by decide) (by decide)))
  have E_t := E_t.wr W_10
  have V_no := V_no.other W_10 ne_no_t
  have N_10 := Fr.snoc X_10 N_8 le_n0_t
  refine hst st_10 ?_
  show G (T_10.setTop (mkF mI 100 #[.val (.ref t), .val (.int pq), .val (.ref no), .val (.long (0 : Int64)), .second, .val (.long (0 : Int64)), .second, .val (.long lo), .second, .val (.long hi), .second, .val (.ref ts), .val .null, .val (.int (-2 : Int32)), .unset] []))
  exact hend (own_goVoid X_10 hx Bd.returns (hb hby dst_100) Bd.notSynchronized (by rw [e_10]; exact ⟨rfl, N_10, K0, ⟨E_t, F_places_t, F_low_t, F_high_t, F_firstRun_t, _, F_kept_t⟩, ⟨F_keptLeft_t, F_keptRight_t⟩⟩) (by decide) (by decide))
theorem dpr_0 : decode prog_159_method_12_code 0 = .ok (.aload_n 0, 1) := by decide +kernel
theorem dpr_1 : decode prog_159_method_12_code 1 = .ok (.getfield 55, 3) := by decide +kernel
theorem dpr_4 : decode prog_159_method_12_code 4 = .ok (.ldc2_w 59, 3) := by decide +kernel
theorem dpr_7 : decode prog_159_method_12_code 7 = .ok (.lmul, 1) := by decide +kernel
theorem dpr_8 : decode prog_159_method_12_code 8 = .ok (.aload_n 0, 1) := by decide +kernel
theorem dpr_9 : decode prog_159_method_12_code 9 = .ok (.getfield 49, 3) := by decide +kernel
theorem dpr_12 : decode prog_159_method_12_code 12 = .ok (.i2l, 1) := by decide +kernel
theorem dpr_13 : decode prog_159_method_12_code 13 = .ok (.ladd, 1) := by decide +kernel
theorem dpr_14 : decode prog_159_method_12_code 14 = .ok (.lstore_n 1, 1) := by decide +kernel
theorem dpr_15 : decode prog_159_method_12_code 15 = .ok (.lload_n 1, 1) := by decide +kernel
theorem dpr_16 : decode prog_159_method_12_code 16 = .ok (.lload_n 1, 1) := by decide +kernel
theorem dpr_17 : decode prog_159_method_12_code 17 = .ok (.bipush 33, 2) := by decide +kernel
theorem dpr_19 : decode prog_159_method_12_code 19 = .ok (.lushr, 1) := by decide +kernel
theorem dpr_20 : decode prog_159_method_12_code 20 = .ok (.lxor, 1) := by decide +kernel
theorem dpr_21 : decode prog_159_method_12_code 21 = .ok (.lstore_n 1, 1) := by decide +kernel
theorem dpr_22 : decode prog_159_method_12_code 22 = .ok (.lload_n 1, 1) := by decide +kernel
theorem dpr_23 : decode prog_159_method_12_code 23 = .ok (.ldc2_w 61, 3) := by decide +kernel
theorem dpr_26 : decode prog_159_method_12_code 26 = .ok (.lmul, 1) := by decide +kernel
theorem dpr_27 : decode prog_159_method_12_code 27 = .ok (.lstore_n 1, 1) := by decide +kernel
theorem dpr_28 : decode prog_159_method_12_code 28 = .ok (.lload_n 1, 1) := by decide +kernel
theorem dpr_29 : decode prog_159_method_12_code 29 = .ok (.lload_n 1, 1) := by decide +kernel
theorem dpr_30 : decode prog_159_method_12_code 30 = .ok (.bipush 33, 2) := by decide +kernel
theorem dpr_32 : decode prog_159_method_12_code 32 = .ok (.lushr, 1) := by decide +kernel
theorem dpr_33 : decode prog_159_method_12_code 33 = .ok (.lxor, 1) := by decide +kernel
theorem dpr_34 : decode prog_159_method_12_code 34 = .ok (.lstore_n 1, 1) := by decide +kernel
theorem dpr_35 : decode prog_159_method_12_code 35 = .ok (.lload_n 1, 1) := by decide +kernel
theorem dpr_36 : decode prog_159_method_12_code 36 = .ok (.l2i, 1) := by decide +kernel
theorem dpr_37 : decode prog_159_method_12_code 37 = .ok (.ireturn, 1) := by decide +kernel
theorem ef_pr (mI : MethodId) (a : Addr) : entryFrame mI #[(.ref a)] 3 = mkF mI 0 #[.val (.ref a), .unset, .unset] [] := by first | (simp [entryFrame, mkF, argsToLocals, Value.category]; done) | rfl
theorem pn_pr : plainName own_TP = true := by first | decide +kernel | (simp [plainName, overriddenIn]; done)
set_option maxRecDepth 65536 in
set_option maxHeartbeats 40000000 in
theorem rmpr (lL : Launch) (Z : State) (a0 : Array Value) (hw : ∀ d ∈ tables_1, d.before a0 Z = true) (ws : List Jvm.Cond) (a : Addr) (pa : Int32) (la : Int64) (h0 : Heap) (n0 : Nat) (Z0 : n0 ≤ h0.size) (F_low_a : Fld Z h0 a own_ST "low" "J" (.long la)) (F_places_a : Fld Z h0 a own_ST "places" "I" (.int pa)) :
    MetFree lL (⟨own_TP, "priority", "(Lcom/example/tierfold/tierfold/tiered/SharedTail;)I"⟩ : MethodName) (head1 (Jvm.Cond.code (⟨own_TP, "priority", "(Lcom/example/tierfold/tierfold/tiered/SharedTail;)I"⟩ : MethodName) prog_159_method_12_code 3 (some .int) :: ws) ({ frames := 0, cells := 0, slots := 0, locals := 0 } : Room)) (fun a_ U_ => a_ = #[(.ref a)] ∧ Z.Warmed39 U_.vm ∧ U_.heap = h0) (fun _ _ _ _ _ => True) (fun _ U_ o_ W_ => ∃ v_ L_, o_ = .returned v_ ∧ own_QI (own_pr pa la) h0 n0 v_ W_.heap L_ ∧ FrameEnd U_ o_ W_ L_ ({ frames := 0, cells := 0, slots := 0, locals := 0 } : Room).cells ({ frames := 0, cells := 0, slots := 0, locals := 0 } : Room).slots) := by
  refine MetFree.of_bodySF (plainFor_of_name pn_pr) hisR ?_
  intro pP eE sS mI args below meth cC s₁ Bd hml0 hP hK
  obtain ⟨rfl, hZ, hh⟩ := hP
  have hx := Bd.exec
  have hby := Bd.bytes
  have hml : cC.maxLocals = 3 := hml0
  have hown : sS.vm.findClass own_TP = some mI.cls := by have z := findClass_of_methodNamed Bd.named; exact z
  have hnm := (name_of_methodNamed Bd.named Bd.method).1
  have X0 : Stand pP lL eE ({ frames := 0, cells := 0, slots := 0, locals := 0 } : Room) sS mI #[(.ref a)] below meth cC s₁ [] 0 0 := Stand.of_body Bd
  have e0 : s₁.heap = h0 := by rw [← hh, Bd.state]; rfl
  have N0 := Fr.nil n0
  obtain ⟨G, hG, hst, hend⟩ := own_abs pP eE below sS (own_QI (own_pr pa la) h0 n0) ({ frames := 0, cells := 0, slots := 0, locals := 0 } : Room).cells ({ frames := 0, cells := 0, slots := 0, locals := 0 } : Room).slots
  refine hG (S := s₁.setTop (entryFrame mI #[(.ref a)] 3)) (hst (fun t_ kt_ => castTop (ef_pr mI a) kt_) ?_)
  show G (s₁.setTop (mkF mI 0 #[.val (.ref a), .unset, .unset] []))
  refine o_aloadN hst X0.here hx (hb hby dpr_0) (pc' := 1) rfl rfl rfl ?_
  obtain ⟨T_1, X_1, e_1, st_1⟩ := getF X0 hx hZ hown (host := "") (Or.inl (own_w137 hw)) Via.refl e0 F_low_a (g := (mkF mI 1 #[.val (.ref a), .unset, .unset] [(.ref a)])) rfl rfl (hb hby dpr_1)
  refine hst st_1 ?_
  show G (T_1.setTop (mkF mI 4 #[.val (.ref a), .unset, .unset] [(.long la)]))
  refine hst (X_1.ldc2Long hx hown (mvT hZ (own_w138 hw)) (g := (mkF mI 4 #[.val (.ref a), .unset, .unset] [(.long la)])) rfl (hb hby dpr_4)) ?_
  show G (T_1.setTop (mkF mI 7 #[.val (.ref a), .unset, .unset] [(.long (-7046029254386353131 : Int64)), (.long la)]))
  refine o_lmul hst X_1.here hx (hb hby dpr_7) (pc' := 8) rfl ?_
  refine o_aloadN hst X_1.here hx (hb hby dpr_8) (pc' := 9) rfl rfl rfl ?_
  obtain ⟨T_2, X_2, e_2, st_2⟩ := getF X_1 hx hZ hown (host := "") (Or.inl (own_w139 hw)) Via.refl e_1 F_places_a (g := (mkF mI 9 #[.val (.ref a), .unset, .unset] [(.ref a), (.long (la * (-7046029254386353131 : Int64)))])) rfl rfl (hb hby dpr_9)
  refine hst st_2 ?_
  show G (T_2.setTop (mkF mI 12 #[.val (.ref a), .unset, .unset] [(.int pa), (.long (la * (-7046029254386353131 : Int64)))]))
  refine o_i2l hst X_2.here hx (hb hby dpr_12) (pc' := 13) rfl ?_
  refine o_ladd hst X_2.here hx (hb hby dpr_13) (pc' := 14) rfl ?_
  obtain ⟨x1, hx1⟩ : ∃ z, z = ((la * (-7046029254386353131 : Int64)) + (pa.toInt64)) := ⟨_, rfl⟩
  rw [← hx1]
  show G (T_2.setTop (mkF mI 14 #[.val (.ref a), .unset, .unset] [(.long x1)]))
  refine o_lstoreN hst X_2.here hx (hb hby dpr_14) (pc' := 15) rfl (Lt := #[.val (.ref a), .val (.long x1), .second]) rfl ?_
  refine o_lloadN hst X_2.here hx (hb hby dpr_15) (pc' := 16) rfl rfl ?_
  refine o_lloadN hst X_2.here hx (hb hby dpr_16) (pc' := 17) rfl rfl ?_
  refine o_bipush hst X_2.here hx (hb hby dpr_17) (pc' := 19) rfl (z := (33 : Int32)) rfl ?_
  refine o_lushr hst X_2.here hx (hb hby dpr_19) (pc' := 20) rfl ?_
  refine o_lxor hst X_2.here hx (hb hby dpr_20) (pc' := 21) rfl ?_
  refine o_lstoreN hst X_2.here hx (hb hby dpr_21) (pc' := 22) rfl (Lt := #[.val (.ref a), .val (.long (x1 ^^^ ((x1.toUInt64 >>> ((33 : Int32) &&& 0x3f).toInt64.toUInt64).toInt64))), .second]) rfl ?_
  refine o_lloadN hst X_2.here hx (hb hby dpr_22) (pc' := 23) rfl rfl ?_
  refine hst (X_2.ldc2Long hx hown (mvT hZ (own_w140 hw)) (g := (mkF mI 23 #[.val (.ref a), .val (.long (x1 ^^^ ((x1.toUInt64 >>> ((33 : Int32) &&& 0x3f).toInt64.toUInt64).toInt64))), .second] [(.long (x1 ^^^ ((x1.toUInt64 >>> ((33 : Int32) &&& 0x3f).toInt64.toUInt64).toInt64)))])) rfl (hb hby dpr_23)) ?_
  show G (T_2.setTop (mkF mI 26 #[.val (.ref a), .val (.long (x1 ^^^ ((x1.toUInt64 >>> ((33 : Int32) &&& 0x3f).toInt64.toUInt64).toInt64))), .second] [(.long (-49064778989728563 : Int64)), (.long (x1 ^^^ ((x1.toUInt64 >>> ((33 : Int32) &&& 0x3f).toInt64.toUInt64).toInt64)))]))
  refine o_lmul hst X_2.here hx (hb hby dpr_26) (pc' := 27) rfl ?_
  obtain ⟨x2, hx2⟩ : ∃ z, z = ((x1 ^^^ ((x1.toUInt64 >>> ((33 : Int32) &&& 0x3f).toInt64.toUInt64).toInt64)) * (-49064778989728563 : Int64)) := ⟨_, rfl⟩
  rw [← hx2]
  show G (T_2.setTop (mkF mI 27 #[.val (.ref a), .val (.long (x1 ^^^ ((x1.toUInt64 >>> ((33 : Int32) &&& 0x3f).toInt64.toUInt64).toInt64))), .second] [(.long x2)]))
  refine o_lstoreN hst X_2.here hx (hb hby dpr_27) (pc' := 28) rfl (Lt := #[.val (.ref a), .val (.long x2), .second]) rfl ?_
  refine o_lloadN hst X_2.here hx (hb hby dpr_28) (pc' := 29) rfl rfl ?_
  refine o_lloadN hst X_2.here hx (hb hby dpr_29) (pc' := 30) rfl rfl ?_
  refine o_bipush hst X_2.here hx (hb hby dpr_30) (pc' := 32) rfl (z := (33 : Int32)) rfl ?_
  refine o_lushr hst X_2.here hx (hb hby dpr_32) (pc' := 33) rfl ?_
  refine o_lxor hst X_2.here hx (hb hby dpr_33) (pc' := 34) rfl ?_
  refine o_lstoreN hst X_2.here hx (hb hby dpr_34) (pc' := 35) rfl (Lt := #[.val (.ref a), .val (.long (x2 ^^^ ((x2.toUInt64 >>> ((33 : Int32) &&& 0x3f).toInt64.toUInt64).toInt64))), .second]) rfl ?_
  refine o_lloadN hst X_2.here hx (hb hby dpr_35) (pc' := 36) rfl rfl ?_
  refine o_l2i hst X_2.here hx (hb hby dpr_36) (pc' := 37) rfl ?_
  exact hend (own_goRet X_2 hx Bd.returns rfl (Or.inl ⟨rfl, by simp, _, rfl⟩) (hb hby dpr_37) Bd.notSynchronized (by rw [e_2]; exact ⟨by subst hx2; subst hx1; rfl, N0, rfl⟩) (by decide) (by decide))
theorem dbf_0 : decode prog_159_method_9_code 0 = .ok (.aload_n 0, 1) := by decide +kernel
theorem dbf_1 : decode prog_159_method_9_code 1 = .ok (.getfield 49, 3) := by decide +kernel
theorem dbf_4 : decode prog_159_method_9_code 4 = .ok (.aload_n 1, 1) := by decide +kernel
theorem dbf_5 : decode prog_159_method_9_code 5 = .ok (.getfield 49, 3) := by decide +kernel
theorem dbf_8 : decode prog_159_method_9_code 8 = .ok (.if_icmp .eq 20, 3) := by decide +kernel
theorem dbf_11 : decode prog_159_method_9_code 11 = .ok (.aload_n 0, 1) := by decide +kernel
theorem dbf_12 : decode prog_159_method_9_code 12 = .ok (.getfield 49, 3) := by decide +kernel
theorem dbf_15 : decode prog_159_method_9_code 15 = .ok (.aload_n 1, 1) := by decide +kernel
theorem dbf_16 : decode prog_159_method_9_code 16 = .ok (.getfield 49, 3) := by decide +kernel
theorem dbf_19 : decode prog_159_method_9_code 19 = .ok (.if_icmp .ge 7, 3) := by decide +kernel
theorem dbf_22 : decode prog_159_method_9_code 22 = .ok (.iconst 1, 1) := by decide +kernel
theorem dbf_23 : decode prog_159_method_9_code 23 = .ok (.goto 4, 3) := by decide +kernel
theorem dbf_26 : decode prog_159_method_9_code 26 = .ok (.iconst 0, 1) := by decide +kernel
theorem dbf_27 : decode prog_159_method_9_code 27 = .ok (.ireturn, 1) := by decide +kernel
theorem dbf_28 : decode prog_159_method_9_code 28 = .ok (.aload_n 0, 1) := by decide +kernel
theorem dbf_29 : decode prog_159_method_9_code 29 = .ok (.getfield 55, 3) := by decide +kernel
theorem dbf_32 : decode prog_159_method_9_code 32 = .ok (.aload_n 1, 1) := by decide +kernel
theorem dbf_33 : decode prog_159_method_9_code 33 = .ok (.getfield 55, 3) := by decide +kernel
theorem dbf_36 : decode prog_159_method_9_code 36 = .ok (.lcmp, 1) := by decide +kernel
theorem dbf_37 : decode prog_159_method_9_code 37 = .ok (.ifCond .ge 7, 3) := by decide +kernel
theorem dbf_40 : decode prog_159_method_9_code 40 = .ok (.iconst 1, 1) := by decide +kernel
theorem dbf_41 : decode prog_159_method_9_code 41 = .ok (.goto 4, 3) := by decide +kernel
theorem dbf_44 : decode prog_159_method_9_code 44 = .ok (.iconst 0, 1) := by decide +kernel
theorem dbf_45 : decode prog_159_method_9_code 45 = .ok (.ireturn, 1) := by decide +kernel
theorem ef_bf (mI : MethodId) (a : Addr) (c : Addr) : entryFrame mI #[(.ref a), (.ref c)] 2 = mkF mI 0 #[.val (.ref a), .val (.ref c)] [] := by first | (simp [entryFrame, mkF, argsToLocals, Value.category]; done) | rfl
theorem pn_bf : plainName own_TP = true := by first | decide +kernel | (simp [plainName, overriddenIn]; done)
set_option maxRecDepth 65536 in
set_option maxHeartbeats 40000000 in
theorem rmbf (lL : Launch) (Z : State) (a0 : Array Value) (hw : ∀ d ∈ tables_1, d.before a0 Z = true) (ws : List Jvm.Cond) (a : Addr) (c : Addr) (pa : Int32) (la : Int64) (pc : Int32) (lc : Int64) (h0 : Heap) (n0 : Nat) (Z0 : n0 ≤ h0.size) (F_places_a : Fld Z h0 a own_ST "places" "I" (.int pa)) (F_low_a : Fld Z h0 a own_ST "low" "J" (.long la)) (F_places_c : Fld Z h0 c own_ST "places" "I" (.int pc)) (F_low_c : Fld Z h0 c own_ST "low" "J" (.long lc)) :
    MetFree lL (⟨own_TP, "before", "(Lcom/example/tierfold/tierfold/tiered/SharedTail;Lcom/example/tierfold/tierfold/tiered/SharedTail;)Z"⟩ : MethodName) (head1 (Jvm.Cond.code (⟨own_TP, "before", "(Lcom/example/tierfold/tierfold/tiered/SharedTail;Lcom/example/tierfold/tierfold/tiered/SharedTail;)Z"⟩ : MethodName) prog_159_method_9_code 2 (some .boolean) :: ws) ({ frames := 0, cells := 0, slots := 0, locals := 0 } : Room)) (fun a_ U_ => a_ = #[(.ref a), (.ref c)] ∧ Z.Warmed39 U_.vm ∧ U_.heap = h0) (fun _ _ _ _ _ => True) (fun _ U_ o_ W_ => ∃ v_ L_, o_ = .returned v_ ∧ own_QI (own_bI pa la pc lc) h0 n0 v_ W_.heap L_ ∧ FrameEnd U_ o_ W_ L_ ({ frames := 0, cells := 0, slots := 0, locals := 0 } : Room).cells ({ frames := 0, cells := 0, slots := 0, locals := 0 } : Room).slots) := by
  refine MetFree.of_bodySF (plainFor_of_name pn_bf) hisR ?_
  intro pP eE sS mI args below meth cC s₁ Bd hml0 hP hK
  obtain ⟨rfl, hZ, hh⟩ := hP
  have hx := Bd.exec
  have hby := Bd.bytes
  have hml : cC.maxLocals = 2 := hml0
  have hown : sS.vm.findClass own_TP = some mI.cls := by have z := findClass_of_methodNamed Bd.named; exact z
  have hnm := (name_of_methodNamed Bd.named Bd.method).1
  have X0 : Stand pP lL eE ({ frames := 0, cells := 0, slots := 0, locals := 0 } : Room) sS mI #[(.ref a), (.ref c)] below meth cC s₁ [] 0 0 := Stand.of_body Bd
  have e0 : s₁.heap = h0 := by rw [← hh, Bd.state]; rfl
  have N0 := Fr.nil n0
  obtain ⟨G, hG, hst, hend⟩ := own_abs pP eE below sS (own_QI (own_bI pa la pc lc) h0 n0) ({ frames := 0, cells := 0, slots := 0, locals := 0 } : Room).cells ({ frames := 0, cells := 0, slots := 0, locals := 0 } : Room).slots
  refine hG (S := s₁.setTop (entryFrame mI #[(.ref a), (.ref c)] 2)) (hst (fun t_ kt_ => castTop (ef_bf mI a c) kt_) ?_)
  show G (s₁.setTop (mkF mI 0 #[.val (.ref a), .val (.ref c)] []))
  refine o_aloadN hst X0.here hx (hb hby dbf_0) (pc' := 1) rfl rfl rfl ?_
  obtain ⟨T_1, X_1, e_1, st_1⟩ := getF X0 hx hZ hown (host := "") (Or.inl (own_w139 hw)) Via.refl e0 F_places_a (g := (mkF mI 1 #[.val (.ref a), .val (.ref c)] [(.ref a)])) rfl rfl (hb hby dbf_1)
  refine hst st_1 ?_
  show G (T_1.setTop (mkF mI 4 #[.val (.ref a), .val (.ref c)] [(.int pa)]))
  refine o_aloadN hst X_1.here hx (hb hby dbf_4) (pc' := 5) rfl rfl rfl ?_
  obtain ⟨T_2, X_2, e_2, st_2⟩ := getF X_1 hx hZ hown (host := "") (Or.inl (own_w139 hw)) Via.refl e_1 F_places_c (g := (mkF mI 5 #[.val (.ref a), .val (.ref c)] [(.ref c), (.int pa)])) rfl rfl (hb hby dbf_5)
  refine hst st_2 ?_
  show G (T_2.setTop (mkF mI 8 #[.val (.ref a), .val (.ref c)] [(.int pc), (.int pa)]))
  by_cases h1 : pa = pc
  ·
    refine hst (fun _ kt => XS.icmpYes X_2.here hx rfl (pc0 := 8) (pc' := 28) rfl (hb hby dbf_8) rfl (teq h1).1 (by decide) (by decide) kt) ?_
    show G (T_2.setTop (mkF mI 28 #[.val (.ref a), .val (.ref c)] []))
    refine o_aloadN hst X_2.here hx (hb hby dbf_28) (pc' := 29) rfl rfl rfl ?_
    obtain ⟨T_3, X_3, e_3, st_3⟩ := getF X_2 hx hZ hown (host := "") (Or.inl (own_w137 hw)) Via.refl e_2 F_low_a (g := (mkF mI 29 #[.val (.ref a), .val (.ref c)] [(.ref a)])) rfl rfl (hb hby dbf_29)
    refine hst st_3 ?_
    show G (T_3.setTop (mkF mI 32 #[.val (.ref a), .val (.ref c)] [(.long la)]))
    refine o_aloadN hst X_3.here hx (hb hby dbf_32) (pc' := 33) rfl rfl rfl ?_
    obtain ⟨T_4, X_4, e_4, st_4⟩ := getF X_3 hx hZ hown (host := "") (Or.inl (own_w137 hw)) Via.refl e_3 F_low_c (g := (mkF mI 33 #[.val (.ref a), .val (.ref c)] [(.ref c), (.long la)])) rfl rfl (hb hby dbf_33)
    refine hst st_4 ?_
    show G (T_4.setTop (mkF mI 36 #[.val (.ref a), .val (.ref c)] [(.long lc), (.long la)]))
    refine o_lcmp hst X_4.here hx (hb hby dbf_36) (pc' := 37) rfl ?_
    by_cases h2 : la < lc
    ·
      refine hst (fun _ kt => XS.ifNo X_4.here hx rfl (hb hby dbf_37) rfl ((if0 _ _).trans (tlt ((lw_lt _ _).mpr h2)).2.1) kt) ?_
      show G (T_4.setTop (mkF mI 40 #[.val (.ref a), .val (.ref c)] []))
      refine o_iconst hst X_4.here hx (hb hby dbf_40) (pc' := 41) rfl (z := (1 : Int32)) rfl ?_
      refine o_goto hst X_4.here hx (hb hby dbf_41) (by decide) (pc' := 45) (by decide) ?_
      exact hend (own_goRet X_4 hx Bd.returns rfl (Or.inl ⟨rfl, by simp, _, rfl⟩) (hb hby dbf_45) Bd.notSynchronized (by rw [e_4]; exact ⟨by rw [own_bI, if_pos h1, if_pos h2], N0, rfl⟩) (by decide) (by decide))
    ·
      refine hst (fun _ kt => XS.ifYes X_4.here hx rfl (pc0 := 37) (pc' := 44) rfl (hb hby dbf_37) rfl ((if0 _ _).trans (flt (mt (lw_lt _ _).mp h2)).2.1) (by decide) (by decide) kt) ?_
      show G (T_4.setTop (mkF mI 44 #[.val (.ref a), .val (.ref c)] []))
      refine o_iconst hst X_4.here hx (hb hby dbf_44) (pc' := 45) rfl (z := (0 : Int32)) rfl ?_
      exact hend (own_goRet X_4 hx Bd.returns rfl (Or.inl ⟨rfl, by simp, _, rfl⟩) (hb hby dbf_45) Bd.notSynchronized (by rw [e_4]; exact ⟨by rw [own_bI, if_pos h1, if_neg h2], N0, rfl⟩) (by decide) (by decide))
  ·
    refine hst (fun _ kt => XS.icmpNo X_2.here hx rfl (hb hby dbf_8) rfl (feq h1).1 kt) ?_
    show G (T_2.setTop (mkF mI 11 #[.val (.ref a), .val (.ref c)] []))
    refine o_aloadN hst X_2.here hx (hb hby dbf_11) (pc' := 12) rfl rfl rfl ?_
    obtain ⟨T_5, X_5, e_5, st_5⟩ := getF X_2 hx hZ hown (host := "") (Or.inl (own_w139 hw)) Via.refl e_2 F_places_a (g := (mkF mI 12 #[.val (.ref a), .val (.ref c)] [(.ref a)])) rfl rfl (hb hby dbf_12)
    refine hst st_5 ?_
    show G (T_5.setTop (mkF mI 15 #[.val (.ref a), .val (.ref c)] [(.int pa)]))
    refine o_aloadN hst X_5.here hx (hb hby dbf_15) (pc' := 16) rfl rfl rfl ?_
    obtain ⟨T_6, X_6, e_6, st_6⟩ := getF X_5 hx hZ hown (host := "") (Or.inl (own_w139 hw)) Via.refl e_5 F_places_c (g := (mkF mI 16 #[.val (.ref a), .val (.ref c)] [(.ref c), (.int pa)])) rfl rfl (hb hby dbf_16)
    refine hst st_6 ?_
    show G (T_6.setTop (mkF mI 19 #[.val (.ref a), .val (.ref c)] [(.int pc), (.int pa)]))
    by_cases h2 : pa < pc
    ·
      refine hst (fun _ kt => XS.icmpNo X_6.here hx rfl (hb hby dbf_19) rfl (tlt h2).2.1 kt) ?_
      show G (T_6.setTop (mkF mI 22 #[.val (.ref a), .val (.ref c)] []))
      refine o_iconst hst X_6.here hx (hb hby dbf_22) (pc' := 23) rfl (z := (1 : Int32)) rfl ?_
      refine o_goto hst X_6.here hx (hb hby dbf_23) (by decide) (pc' := 27) (by decide) ?_
      exact hend (own_goRet X_6 hx Bd.returns rfl (Or.inl ⟨rfl, by simp, _, rfl⟩) (hb hby dbf_27) Bd.notSynchronized (by rw [e_6]; exact ⟨by rw [own_bI, if_neg h1, if_pos h2], N0, rfl⟩) (by decide) (by decide))
    ·
      refine hst (fun _ kt => XS.icmpYes X_6.here hx rfl (pc0 := 19) (pc' := 26) rfl (hb hby dbf_19) rfl (flt h2).2.1 (by decide) (by decide) kt) ?_
      show G (T_6.setTop (mkF mI 26 #[.val (.ref a), .val (.ref c)] []))
      refine o_iconst hst X_6.here hx (hb hby dbf_26) (pc' := 27) rfl (z := (0 : Int32)) rfl ?_
      exact hend (own_goRet X_6 hx Bd.returns rfl (Or.inl ⟨rfl, by simp, _, rfl⟩) (hb hby dbf_27) Bd.notSynchronized (by rw [e_6]; exact ⟨by rw [own_bI, if_neg h1, if_neg h2], N0, rfl⟩) (by decide) (by decide))
theorem dri_0 : decode prog_151_method_3_code 0 = .ok (.aload_n 1, 1) := by decide +kernel
theorem dri_1 : decode prog_151_method_3_code 1 = .ok (.getfield 13, 3) := by decide +kernel
theorem dri_4 : decode prog_151_method_3_code 4 = .ok (.areturn, 1) := by decide +kernel
theorem ef_ri (mI : MethodId) (tk : Addr) (a : Addr) : entryFrame mI #[(.ref tk), (.ref a)] 2 = mkF mI 0 #[.val (.ref tk), .val (.ref a)] [] := by first | (simp [entryFrame, mkF, argsToLocals, Value.category]; done) | rfl
theorem pn_ri : plainName own_S1 = true := by first | decide +kernel | (simp [plainName, overriddenIn]; done)
set_option maxRecDepth 65536 in
set_option maxHeartbeats 40000000 in
theorem rmri (lL : Launch) (Z : State) (a0 : Array Value) (hw : ∀ d ∈ tables_1, d.before a0 Z = true) (ws : List Jvm.Cond) (tk : Addr) (a : Addr) (vx : Value) (h0 : Heap) (n0 : Nat) (Z0 : n0 ≤ h0.size) (hvx : vx.isRef = true) (F_keptRight_a : Fld Z h0 a own_ST "keptRight" own_dST vx) :
    MetFree lL (⟨own_S1, "right", "(Lcom/example/tierfold/tierfold/tiered/SharedTail;)Lcom/example/tierfold/tierfold/tiered/SharedTail;"⟩ : MethodName) (head1 (Jvm.Cond.code (⟨own_S1, "right", "(Lcom/example/tierfold/tierfold/tiered/SharedTail;)Lcom/example/tierfold/tierfold/tiered/SharedTail;"⟩ : MethodName) prog_151_method_3_code 2 (some (.object own_ST)) :: ws) ({ frames := 0, cells := 0, slots := 0, locals := 0 } : Room)) (fun a_ U_ => a_ = #[(.ref tk), (.ref a)] ∧ Z.Warmed39 U_.vm ∧ U_.heap = h0) (fun _ _ _ _ _ => True) (fun _ U_ o_ W_ => ∃ v_ L_, o_ = .returned v_ ∧ own_QR vx h0 n0 v_ W_.heap L_ ∧ FrameEnd U_ o_ W_ L_ ({ frames := 0, cells := 0, slots := 0, locals := 0 } : Room).cells ({ frames := 0, cells := 0, slots := 0, locals := 0 } : Room).slots) := by
  refine MetFree.of_bodySF (plainFor_of_name pn_ri) hisR ?_
  intro pP eE sS mI args below meth cC s₁ Bd hml0 hP hK
  obtain ⟨rfl, hZ, hh⟩ := hP
  have hx := Bd.exec
  have hby := Bd.bytes
  have hml : cC.maxLocals = 2 := hml0
  have hown : sS.vm.findClass own_S1 = some mI.cls := by have z := findClass_of_methodNamed Bd.named; exact z
  have hnm := (name_of_methodNamed Bd.named Bd.method).1
  have X0 : Stand pP lL eE ({ frames := 0, cells := 0, slots := 0, locals := 0 } : Room) sS mI #[(.ref tk), (.ref a)] below meth cC s₁ [] 0 0 := Stand.of_body Bd
  have e0 : s₁.heap = h0 := by rw [← hh, Bd.state]; rfl
  have N0 := Fr.nil n0
  obtain ⟨G, hG, hst, hend⟩ := own_abs pP eE below sS (own_QR vx h0 n0) ({ frames := 0, cells := 0, slots := 0, locals := 0 } : Room).cells ({ frames := 0, cells := 0, slots := 0, locals := 0 } : Room).slots
  refine hG (S := s₁.setTop (entryFrame mI #[(.ref tk), (.ref a)] 2)) (hst (fun t_ kt_ => castTop (ef_ri mI tk a) kt_) ?_)
  show G (s₁.setTop (mkF mI 0 #[.val (.ref tk), .val (.ref a)] []))
  refine o_aloadN hst X0.here hx (hb hby dri_0) (pc' := 1) rfl rfl rfl ?_
  obtain ⟨T_1, X_1, e_1, st_1⟩ := getF X0 hx hZ hown (host := "") (Or.inl (own_w150 hw)) Via.refl e0 F_keptRight_a (g := (mkF mI 1 #[.val (.ref tk), .val (.ref a)] [(.ref a)])) rfl rfl (hb hby dri_1)
  refine hst st_1 ?_
  show G (T_1.setTop (mkF mI 4 #[.val (.ref tk), .val (.ref a)] [vx]))
  exact hend (own_goRet X_1 hx Bd.returns rfl (Or.inr (Or.inr (Or.inr (Or.inr ⟨rfl, rfl, hvx⟩)))) (hb hby dri_4) Bd.notSynchronized (by rw [e_1]; exact ⟨rfl, N0, rfl⟩) (by decide) (by decide))
theorem dle_0 : decode prog_151_method_2_code 0 = .ok (.aload_n 1, 1) := by decide +kernel
theorem dle_1 : decode prog_151_method_2_code 1 = .ok (.getfield 7, 3) := by decide +kernel
theorem dle_4 : decode prog_151_method_2_code 4 = .ok (.areturn, 1) := by decide +kernel
theorem ef_le (mI : MethodId) (tk : Addr) (a : Addr) : entryFrame mI #[(.ref tk), (.ref a)] 2 = mkF mI 0 #[.val (.ref tk), .val (.ref a)] [] := by first | (simp [entryFrame, mkF, argsToLocals, Value.category]; done) | rfl
theorem pn_le : plainName own_S1 = true := by first | decide +kernel | (simp [plainName, overriddenIn]; done)
set_option maxRecDepth 65536 in
set_option maxHeartbeats 40000000 in
theorem rmle (lL : Launch) (Z : State) (a0 : Array Value) (hw : ∀ d ∈ tables_1, d.before a0 Z = true) (ws : List Jvm.Cond) (tk : Addr) (a : Addr) (vx : Value) (h0 : Heap) (n0 : Nat) (Z0 : n0 ≤ h0.size) (hvx : vx.isRef = true) (F_keptLeft_a : Fld Z h0 a own_ST "keptLeft" own_dST vx) :
    MetFree lL (⟨own_S1, "left", "(Lcom/example/tierfold/tierfold/tiered/SharedTail;)Lcom/example/tierfold/tierfold/tiered/SharedTail;"⟩ : MethodName) (head1 (Jvm.Cond.code (⟨own_S1, "left", "(Lcom/example/tierfold/tierfold/tiered/SharedTail;)Lcom/example/tierfold/tierfold/tiered/SharedTail;"⟩ : MethodName) prog_151_method_2_code 2 (some (.object own_ST)) :: ws) ({ frames := 0, cells := 0, slots := 0, locals := 0 } : Room)) (fun a_ U_ => a_ = #[(.ref tk), (.ref a)] ∧ Z.Warmed39 U_.vm ∧ U_.heap = h0) (fun _ _ _ _ _ => True) (fun _ U_ o_ W_ => ∃ v_ L_, o_ = .returned v_ ∧ own_QR vx h0 n0 v_ W_.heap L_ ∧ FrameEnd U_ o_ W_ L_ ({ frames := 0, cells := 0, slots := 0, locals := 0 } : Room).cells ({ frames := 0, cells := 0, slots := 0, locals := 0 } : Room).slots) := by
  refine MetFree.of_bodySF (plainFor_of_name pn_le) hisR ?_
  intro pP eE sS mI args below meth cC s₁ Bd hml0 hP hK
  obtain ⟨rfl, hZ, hh⟩ := hP
  have hx := Bd.exec
  have hby := Bd.bytes
  have hml : cC.maxLocals = 2 := hml0
  have hown : sS.vm.findClass own_S1 = some mI.cls := by have z := findClass_of_methodNamed Bd.named; exact z
  have hnm := (name_of_methodNamed Bd.named Bd.method).1
  have X0 : Stand pP lL eE ({ frames := 0, cells := 0, slots := 0, locals := 0 } : Room) sS mI #[(.ref tk), (.ref a)] below meth cC s₁ [] 0 0 := Stand.of_body Bd
  have e0 : s₁.heap = h0 := by rw [← hh, Bd.state]; rfl
  have N0 := Fr.nil n0
  obtain ⟨G, hG, hst, hend⟩ := own_abs pP eE below sS (own_QR vx h0 n0) ({ frames := 0, cells := 0, slots := 0, locals := 0 } : Room).cells ({ frames := 0, cells := 0, slots := 0, locals := 0 } : Room).slots
  refine hG (S := s₁.setTop (entryFrame mI #[(.ref tk), (.ref a)] 2)) (hst (fun t_ kt_ => castTop (ef_le mI tk a) kt_) ?_)
  show G (s₁.setTop (mkF mI 0 #[.val (.ref tk), .val (.ref a)] []))
  refine o_aloadN hst X0.here hx (hb hby dle_0) (pc' := 1) rfl rfl rfl ?_
  obtain ⟨T_1, X_1, e_1, st_1⟩ := getF X0 hx hZ hown (host := "") (Or.inl (own_w175 hw)) Via.refl e0 F_keptLeft_a (g := (mkF mI 1 #[.val (.ref tk), .val (.ref a)] [(.ref a)])) rfl rfl (hb hby dle_1)
  refine hst st_1 ?_
  show G (T_1.setTop (mkF mI 4 #[.val (.ref tk), .val (.ref a)] [vx]))
  exact hend (own_goRet X_1 hx Bd.returns rfl (Or.inr (Or.inr (Or.inr (Or.inr ⟨rfl, rfl, hvx⟩)))) (hb hby dle_4) Bd.notSynchronized (by rw [e_1]; exact ⟨rfl, N0, rfl⟩) (by decide) (by decide))
theorem dsr_0 : decode prog_151_method_5_code 0 = .ok (.aload_n 1, 1) := by decide +kernel
theorem dsr_1 : decode prog_151_method_5_code 1 = .ok (.aload_n 2, 1) := by decide +kernel
theorem dsr_2 : decode prog_151_method_5_code 2 = .ok (.putfield 13, 3) := by decide +kernel
theorem dsr_5 : decode prog_151_method_5_code 5 = .ok (.return_, 1) := by decide +kernel
theorem ef_sr (mI : MethodId) (tk : Addr) (a : Addr) (vx : Value) (e_vx : vx.isRef = true) : entryFrame mI #[(.ref tk), (.ref a), vx] 3 = mkF mI 0 #[.val (.ref tk), .val (.ref a), .val vx] [] := by rcases ref_cases e_vx with rfl | ⟨_, rfl⟩ <;> first | (simp [entryFrame, mkF, argsToLocals, Value.category]; done) | rfl
theorem pn_sr : plainName own_S1 = true := by first | decide +kernel | (simp [plainName, overriddenIn]; done)
set_option maxRecDepth 65536 in
set_option maxHeartbeats 40000000 in
theorem rmsr (lL : Launch) (Z : State) (a0 : Array Value) (hw : ∀ d ∈ tables_1, d.before a0 Z = true) (ws : List Jvm.Cond) (tk : Addr) (a : Addr) (vx : Value) (vl : Value) (vr : Value) (pa : Int32) (la : Int64) (ga : Int64) (h0 : Heap) (n0 : Nat) (Z0 : n0 ≤ h0.size) (hvx : vx.isRef = true) (N_a : own_Nd Z h0 a pa la ga) (L_a : own_Lk Z h0 a vl vr) (le_n0_a : n0 ≤ a) :
    MetFree lL (⟨own_S1, "setRight", "(Lcom/example/tierfold/tierfold/tiered/SharedTail;Lcom/example/tierfold/tierfold/tiered/SharedTail;)V"⟩ : MethodName) (head1 (Jvm.Cond.code (⟨own_S1, "setRight", "(Lcom/example/tierfold/tierfold/tiered/SharedTail;Lcom/example/tierfold/tierfold/tiered/SharedTail;)V"⟩ : MethodName) prog_151_method_5_code 3 none :: ws) ({ frames := 0, cells := 0, slots := 0, locals := 0 } : Room)) (fun a_ U_ => a_ = #[(.ref tk), (.ref a), vx] ∧ Z.Warmed39 U_.vm ∧ U_.heap = h0) (fun _ _ _ _ _ => True) (fun _ U_ o_ W_ => ∃ v_ L_, o_ = .returned v_ ∧ own_Qse Z a vl vx pa la ga h0 n0 v_ W_.heap L_ ∧ FrameEnd U_ o_ W_ L_ ({ frames := 0, cells := 0, slots := 0, locals := 0 } : Room).cells ({ frames := 0, cells := 0, slots := 0, locals := 0 } : Room).slots) := by
  refine MetFree.of_bodySF (plainFor_of_name pn_sr) hisR ?_
  intro pP eE sS mI args below meth cC s₁ Bd hml0 hP hK
  obtain ⟨rfl, hZ, hh⟩ := hP
  have hx := Bd.exec
  have hby := Bd.bytes
  have hml : cC.maxLocals = 3 := hml0
  have hown : sS.vm.findClass own_S1 = some mI.cls := by have z := findClass_of_methodNamed Bd.named; exact z
  have hnm := (name_of_methodNamed Bd.named Bd.method).1
  have X0 : Stand pP lL eE ({ frames := 0, cells := 0, slots := 0, locals := 0 } : Room) sS mI #[(.ref tk), (.ref a), vx] below meth cC s₁ [] 0 0 := Stand.of_body Bd
  have e0 : s₁.heap = h0 := by rw [← hh, Bd.state]; rfl
  have N0 := Fr.nil n0
  obtain ⟨G, hG, hst, hend⟩ := own_abs pP eE below sS (own_Qse Z a vl vx pa la ga h0 n0) ({ frames := 0, cells := 0, slots := 0, locals := 0 } : Room).cells ({ frames := 0, cells := 0, slots := 0, locals := 0 } : Room).slots
  refine hG (S := s₁.setTop (entryFrame mI #[(.ref tk), (.ref a), vx] 3)) (hst (fun t_ kt_ => castTop (ef_sr mI tk a vx hvx) kt_) ?_)
  have Z1 := Nat.le_refl h0.size
  have K0 := Keep.refl h0 [a]
  obtain ⟨E_a, F_places_a, F_low_a, F_high_a, F_firstRun_a, zk_a, F_kept_a⟩ := N_a
  obtain ⟨F_keptLeft_a, F_keptRight_a⟩ := L_a
  rcases ref_cases hvx with rfl | ⟨c, rfl⟩
  ·
    show G (s₁.setTop (mkF mI 0 #[.val (.ref tk), .val (.ref a), .val .null] []))
    refine o_aloadN hst X0.here hx (hb hby dsr_0) (pc' := 1) rfl rfl rfl ?_
    refine o_aloadN hst X0.here hx (hb hby dsr_1) (pc' := 2) rfl rfl rfl ?_
    obtain ⟨T_1, h_1, X_1, e_1, W_1, st_1⟩ := putF X0 hx hZ hown (host := "") (Or.inl (own_w150 hw)) Via.refl e0 F_keptRight_a E_a (Or.inl (own_w151 hw)) (own_w99 hw) (ty := (.object own_ST)) (by decide) rfl rfl (g := (mkF mI 2 #[.val (.ref tk), .val (.ref a), .val .null] [.null, (.ref a)])) rfl rfl (hb hby dsr_2)
    have Z0 := Nat.le_trans Z0 (Keep.of_wr W_1).1
    have Z1 := Nat.le_trans Z1 (Keep.of_wr W_1).1
    have K0 := K0.wr W_1 (Or.inl (List.mem_of_getElem? (i := 0) rfl))
    have E_a := E_a.wr W_1
    have F_places_a := F_places_a.other W_1 (Or.inr (slot_ne (Or.inr (own_w108 hw)) (Or.inl (own_w151 hw)) (by decide) (t := .int) (t' := (.object own_ST)) (by decide) (by decide)))
    have F_low_a := F_low_a.other W_1 (Or.inr (slot_ne (Or.inr (own_w112 hw)) (Or.inl (own_w151 hw)) (by decide) (t := .long) (t' := (.object own_ST)) (by decide) (by decide)))
    have F_high_a := F_high_a.other W_1 (Or.inr (slot_ne (Or.inl (own_w116 hw)) (Or.inl (own_w151 hw)) (by decide) (t := .long) (t' := (.object own_ST)) (by decide) (by decide)))
    have F_firstRun_a := F_firstRun_a.other W_1 (Or.inr (slot_ne (Or.inr (own_w120 hw)) (Or.inl (own_w151 hw)) (by decide) (t := (.object own_RUN)) (t' := (.object own_ST)) (by decide) (by decide)))
    have F_kept_a := F_kept_a.other W_1 (Or.inr (slot_ne (Or.inl (own_w132 hw)) (Or.inl (own_w151 hw)) (by decide) (t := .boolean) (t' := (.object own_ST)) (by decide) (by decide)))
    have F_keptLeft_a := F_keptLeft_a.other W_1 (Or.inr (slot_ne (Or.inl (own_w176 hw)) (Or.inl (own_w151 hw)) (by decide) (t := (.object own_ST)) (t' := (.object own_ST)) (by decide) (by decide)))
    have F_keptRight_a := F_keptRight_a.same W_1
    have N_1 := Fr.snoc X_1 N0 le_n0_a
    refine hst st_1 ?_
    show G (T_1.setTop (mkF mI 5 #[.val (.ref tk), .val (.ref a), .val .null] []))
    exact hend (own_goVoid X_1 hx Bd.returns (hb hby dsr_5) Bd.notSynchronized (by rw [e_1]; exact ⟨rfl, N_1, K0, ⟨E_a, F_places_a, F_low_a, F_high_a, F_firstRun_a, _, F_kept_a⟩, ⟨F_keptLeft_a, F_keptRight_a⟩⟩) (by decide) (by decide))
  ·
    show G (s₁.setTop (mkF mI 0 #[.val (.ref tk), .val (.ref a), .val (.ref c)] []))
    refine o_aloadN hst X0.here hx (hb hby dsr_0) (pc' := 1) rfl rfl rfl ?_
    refine o_aloadN hst X0.here hx (hb hby dsr_1) (pc' := 2) rfl rfl rfl ?_
    obtain ⟨T_2, h_2, X_2, e_2, W_2, st_2⟩ := putF X0 hx hZ hown (host := "") (Or.inl (own_w150 hw)) Via.refl e0 F_keptRight_a E_a (Or.inl (own_w151 hw)) (own_w99 hw) (ty := (.object own_ST)) (by decide) rfl rfl (g := (mkF mI 2 #[.val (.ref tk), .val (.ref a), .val (.ref c)] [(.ref c), (.ref a)])) rfl rfl (hb hby dsr_2)
    have Z0 := Nat.le_trans Z0 (Keep.of_wr W_2).1
    have Z1 := Nat.le_trans Z1 (Keep.of_wr W_2).1
    have K0 := K0.wr W_2 (Or.inl (List.mem_of_getElem? (i := 0) rfl))
    have E_a := E_a.wr W_2
    have F_places_a := F_places_a.other W_2 (Or.inr (slot_ne (Or.inr (own_w108 hw)) (Or.inl (own_w151 hw)) (by decide) (t := .int) (t' := (.object own_ST)) (by decide) (by decide)))
    have F_low_a := F_low_a.other W_2 (Or.inr (slot_ne (Or.inr (own_w112 hw)) (Or.inl (own_w151 hw)) (by decide) (t := .long) (t' := (.object own_ST)) (by decide) (by decide)))
    have F_high_a := F_high_a.other W_2 (Or.inr (slot_ne (Or.inl (own_w116 hw)) (Or.inl (own_w151 hw)) (by decide) (t := .long) (t' := (.object own_ST)) (by decide) (by decide)))
    have F_firstRun_a := F_firstRun_a.other W_2 (Or.inr (slot_ne (Or.inr (own_w120 hw)) (Or.inl (own_w151 hw)) (by decide) (t := (.object own_RUN)) (t' := (.object own_ST)) (by decide) (by decide)))
    have F_kept_a := F_kept_a.other W_2 (Or.inr (slot_ne (Or.inl (own_w132 hw)) (Or.inl (own_w151 hw)) (by decide) (t := .boolean) (t' := (.object own_ST)) (by decide) (by decide)))
    have F_keptLeft_a := F_keptLeft_a.other W_2 (Or.inr (slot_ne (Or.inl (own_w176 hw)) (Or.inl (own_w151 hw)) (by decide) (t := (.object own_ST)) (t' := (.object own_ST)) (by decide) (by decide)))
    have F_keptRight_a := F_keptRight_a.same W_2
    have N_2 := Fr.snoc X_2 N0 le_n0_a
    refine hst st_2 ?_
    show G (T_2.setTop (mkF mI 5 #[.val (.ref tk), .val (.ref a), .val (.ref c)] []))
    exact hend (own_goVoid X_2 hx Bd.returns (hb hby dsr_5) Bd.notSynchronized (by rw [e_2]; exact ⟨rfl, N_2, K0, ⟨E_a, F_places_a, F_low_a, F_high_a, F_firstRun_a, _, F_kept_a⟩, ⟨F_keptLeft_a, F_keptRight_a⟩⟩) (by decide) (by decide))
theorem dsl_0 : decode prog_151_method_4_code 0 = .ok (.aload_n 1, 1) := by decide +kernel
theorem dsl_1 : decode prog_151_method_4_code 1 = .ok (.aload_n 2, 1) := by decide +kernel
theorem dsl_2 : decode prog_151_method_4_code 2 = .ok (.putfield 7, 3) := by decide +kernel
theorem dsl_5 : decode prog_151_method_4_code 5 = .ok (.return_, 1) := by decide +kernel
theorem ef_sl (mI : MethodId) (tk : Addr) (a : Addr) (vx : Value) (e_vx : vx.isRef = true) : entryFrame mI #[(.ref tk), (.ref a), vx] 3 = mkF mI 0 #[.val (.ref tk), .val (.ref a), .val vx] [] := by rcases ref_cases e_vx with rfl | ⟨_, rfl⟩ <;> first | (simp [entryFrame, mkF, argsToLocals, Value.category]; done) | rfl
theorem pn_sl : plainName own_S1 = true := by first | decide +kernel | (simp [plainName, overriddenIn]; done)
set_option maxRecDepth 65536 in
set_option maxHeartbeats 40000000 in
theorem rmsl (lL : Launch) (Z : State) (a0 : Array Value) (hw : ∀ d ∈ tables_1, d.before a0 Z = true) (ws : List Jvm.Cond) (tk : Addr) (a : Addr) (vx : Value) (vl : Value) (vr : Value) (pa : Int32) (la : Int64) (ga : Int64) (h0 : Heap) (n0 : Nat) (Z0 : n0 ≤ h0.size) (hvx : vx.isRef = true) (N_a : own_Nd Z h0 a pa la ga) (L_a : own_Lk Z h0 a vl vr) (le_n0_a : n0 ≤ a) :
    MetFree lL (⟨own_S1, "setLeft", "(Lcom/example/tierfold/tierfold/tiered/SharedTail;Lcom/example/tierfold/tierfold/tiered/SharedTail;)V"⟩ : MethodName) (head1 (Jvm.Cond.code (⟨own_S1, "setLeft", "(Lcom/example/tierfold/tierfold/tiered/SharedTail;Lcom/example/tierfold/tierfold/tiered/SharedTail;)V"⟩ : MethodName) prog_151_method_4_code 3 none :: ws) ({ frames := 0, cells := 0, slots := 0, locals := 0 } : Room)) (fun a_ U_ => a_ = #[(.ref tk), (.ref a), vx] ∧ Z.Warmed39 U_.vm ∧ U_.heap = h0) (fun _ _ _ _ _ => True) (fun _ U_ o_ W_ => ∃ v_ L_, o_ = .returned v_ ∧ own_Qse Z a vx vr pa la ga h0 n0 v_ W_.heap L_ ∧ FrameEnd U_ o_ W_ L_ ({ frames := 0, cells := 0, slots := 0, locals := 0 } : Room).cells ({ frames := 0, cells := 0, slots := 0, locals := 0 } : Room).slots) := by
  refine MetFree.of_bodySF (plainFor_of_name pn_sl) hisR ?_
  intro pP eE sS mI args below meth cC s₁ Bd hml0 hP hK
  obtain ⟨rfl, hZ, hh⟩ := hP
  have hx := Bd.exec
  have hby := Bd.bytes
  have hml : cC.maxLocals = 3 := hml0
  have hown : sS.vm.findClass own_S1 = some mI.cls := by have z := findClass_of_methodNamed Bd.named; exact z
  have hnm := (name_of_methodNamed Bd.named Bd.method).1
  have X0 : Stand pP lL eE ({ frames := 0, cells := 0, slots := 0, locals := 0 } : Room) sS mI #[(.ref tk), (.ref a), vx] below meth cC s₁ [] 0 0 := Stand.of_body Bd
  have e0 : s₁.heap = h0 := by rw [← hh, Bd.state]; rfl
  have N0 := Fr.nil n0
  obtain ⟨G, hG, hst, hend⟩ := own_abs pP eE below sS (own_Qse Z a vx vr pa la ga h0 n0) ({ frames := 0, cells := 0, slots := 0, locals := 0 } : Room).cells ({ frames := 0, cells := 0, slots := 0, locals := 0 } : Room).slots
  refine hG (S := s₁.setTop (entryFrame mI #[(.ref tk), (.ref a), vx] 3)) (hst (fun t_ kt_ => castTop (ef_sl mI tk a vx hvx) kt_) ?_)
  have Z1 := Nat.le_refl h0.size
  have K0 := Keep.refl h0 [a]
  obtain ⟨E_a, F_places_a, F_low_a, F_high_a, F_firstRun_a, zk_a, F_kept_a⟩ := N_a
  obtain ⟨F_keptLeft_a, F_keptRight_a⟩ := L_a
  rcases ref_cases hvx with rfl | ⟨c, rfl⟩
  ·
    show G (s₁.setTop (mkF mI 0 #[.val (.ref tk), .val (.ref a), .val .null] []))
    refine o_aloadN hst X0.here hx (hb hby dsl_0) (pc' := 1) rfl rfl rfl ?_
    refine o_aloadN hst X0.here hx (hb hby dsl_1) (pc' := 2) rfl rfl rfl ?_
    obtain ⟨T_1, h_1, X_1, e_1, W_1, st_1⟩ := putF X0 hx hZ hown (host := "") (Or.inl (own_w175 hw)) Via.refl e0 F_keptLeft_a E_a (Or.inl (own_w176 hw)) (own_w99 hw) (ty := (.object own_ST)) (by decide) rfl rfl (g := (mkF mI 2 #[.val (.ref tk), .val (.ref a), .val .null] [.null, (.ref a)])) rfl rfl (hb hby dsl_2)
    have Z0 := Nat.le_trans Z0 (Keep.of_wr W_1).1
    have Z1 := Nat.le_trans Z1 (Keep.of_wr W_1).1
    have K0 := K0.wr W_1 (Or.inl (List.mem_of_getElem? (i := 0) rfl))
    have E_a := E_a.wr W_1
    have F_places_a := F_places_a.other W_1 (Or.inr (slot_ne (Or.inr (own_w108 hw)) (Or.inl (own_w176 hw)) (by decide) (t := .int) (t' := (.object own_ST)) (by decide) (by decide)))
    have F_low_a := F_low_a.other W_1 (Or.inr (slot_ne (Or.inr (own_w112 hw)) (Or.inl (own_w176 hw)) (by decide) (t := .long) (t' := (.object own_ST)) (by decide) (by decide)))
    have F_high_a := F_high_a.other W_1 (Or.inr (slot_ne (Or.inl (own_w116 hw)) (Or.inl (own_w176 hw)) (by decide) (t := .long) (t' := (.object own_ST)) (by decide) (by decide)))
    have F_firstRun_a := F_firstRun_a.other W_1 (Or.inr (slot_ne (Or.inr (own_w120 hw)) (Or.inl (own_w176 hw)) (by decide) (t := (.object own_RUN)) (t' := (.object own_ST)) (by decide) (by decide)))
    have F_kept_a := F_kept_a.other W_1 (Or.inr (slot_ne (Or.inl (own_w132 hw)) (Or.inl (own_w176 hw)) (by decide) (t := .boolean) (t' := (.object own_ST)) (by decide) (by decide)))
    have F_keptLeft_a := F_keptLeft_a.same W_1
    have F_keptRight_a := F_keptRight_a.other W_1 (Or.inr (slot_ne (Or.inl (own_w151 hw)) (Or.inl (own_w176 hw)) (by decide) (t := (.object own_ST)) (t' := (.object own_ST)) (by decide) (by decide)))
    have N_1 := Fr.snoc X_1 N0 le_n0_a
    refine hst st_1 ?_
    show G (T_1.setTop (mkF mI 5 #[.val (.ref tk), .val (.ref a), .val .null] []))
    exact hend (own_goVoid X_1 hx Bd.returns (hb hby dsl_5) Bd.notSynchronized (by rw [e_1]; exact ⟨rfl, N_1, K0, ⟨E_a, F_places_a, F_low_a, F_high_a, F_firstRun_a, _, F_kept_a⟩, ⟨F_keptLeft_a, F_keptRight_a⟩⟩) (by decide) (by decide))
  ·
    show G (s₁.setTop (mkF mI 0 #[.val (.ref tk), .val (.ref a), .val (.ref c)] []))
    refine o_aloadN hst X0.here hx (hb hby dsl_0) (pc' := 1) rfl rfl rfl ?_
    refine o_aloadN hst X0.here hx (hb hby dsl_1) (pc' := 2) rfl rfl rfl ?_
    obtain ⟨T_2, h_2, X_2, e_2, W_2, st_2⟩ := putF X0 hx hZ hown (host := "") (Or.inl (own_w175 hw)) Via.refl e0 F_keptLeft_a E_a (Or.inl (own_w176 hw)) (own_w99 hw) (ty := (.object own_ST)) (by decide) rfl rfl (g := (mkF mI 2 #[.val (.ref tk), .val (.ref a), .val (.ref c)] [(.ref c), (.ref a)])) rfl rfl (hb hby dsl_2)
    have Z0 := Nat.le_trans Z0 (Keep.of_wr W_2).1
    have Z1 := Nat.le_trans Z1 (Keep.of_wr W_2).1
    have K0 := K0.wr W_2 (Or.inl (List.mem_of_getElem? (i := 0) rfl))
    have E_a := E_a.wr W_2
    have F_places_a := F_places_a.other W_2 (Or.inr (slot_ne (Or.inr (own_w108 hw)) (Or.inl (own_w176 hw)) (by decide) (t := .int) (t' := (.object own_ST)) (by decide) (by decide)))
    have F_low_a := F_low_a.other W_2 (Or.inr (slot_ne (Or.inr (own_w112 hw)) (Or.inl (own_w176 hw)) (by decide) (t := .long) (t' := (.object own_ST)) (by decide) (by decide)))
    have F_high_a := F_high_a.other W_2 (Or.inr (slot_ne (Or.inl (own_w116 hw)) (Or.inl (own_w176 hw)) (by decide) (t := .long) (t' := (.object own_ST)) (by decide) (by decide)))
    have F_firstRun_a := F_firstRun_a.other W_2 (Or.inr (slot_ne (Or.inr (own_w120 hw)) (Or.inl (own_w176 hw)) (by decide) (t := (.object own_RUN)) (t' := (.object own_ST)) (by decide) (by decide)))
    have F_kept_a := F_kept_a.other W_2 (Or.inr (slot_ne (Or.inl (own_w132 hw)) (Or.inl (own_w176 hw)) (by decide) (t := .boolean) (t' := (.object own_ST)) (by decide) (by decide)))
    have F_keptLeft_a := F_keptLeft_a.same W_2
    have F_keptRight_a := F_keptRight_a.other W_2 (Or.inr (slot_ne (Or.inl (own_w151 hw)) (Or.inl (own_w176 hw)) (by decide) (t := (.object own_ST)) (t' := (.object own_ST)) (by decide) (by decide)))
    have N_2 := Fr.snoc X_2 N0 le_n0_a
    refine hst st_2 ?_
    show G (T_2.setTop (mkF mI 5 #[.val (.ref tk), .val (.ref a), .val (.ref c)] []))
    exact hend (own_goVoid X_2 hx Bd.returns (hb hby dsl_5) Bd.notSynchronized (by rw [e_2]; exact ⟨rfl, N_2, K0, ⟨E_a, F_places_a, F_low_a, F_high_a, F_firstRun_a, _, F_kept_a⟩, ⟨F_keptLeft_a, F_keptRight_a⟩⟩) (by decide) (by decide))
theorem dup_0 : decode prog_159_method_6_code 0 = .ok (.return_, 1) := by decide +kernel
theorem ef_up (mI : MethodId) (tk : Addr) (a : Addr) : entryFrame mI #[(.ref tk), (.ref a)] 2 = mkF mI 0 #[.val (.ref tk), .val (.ref a)] [] := by first | (simp [entryFrame, mkF, argsToLocals, Value.category]; done) | rfl
theorem pn_up : plainName own_TP = true := by first | decide +kernel | (simp [plainName, overriddenIn]; done)
set_option maxRecDepth 65536 in
set_option maxHeartbeats 40000000 in
theorem rmup (lL : Launch) (Z : State) (a0 : Array Value) (hw : ∀ d ∈ tables_1, d.before a0 Z = true) (ws : List Jvm.Cond) (tk : Addr) (a : Addr) (h0 : Heap) (n0 : Nat) (Z0 : n0 ≤ h0.size) :
    MetFree lL (⟨own_TP, "update", "(Lcom/example/tierfold/tierfold/tiered/SharedTail;)V"⟩ : MethodName) (head1 (Jvm.Cond.code (⟨own_TP, "update", "(Lcom/example/tierfold/tierfold/tiered/SharedTail;)V"⟩ : MethodName) prog_159_method_6_code 2 none :: ws) ({ frames := 0, cells := 0, slots := 0, locals := 0 } : Room)) (fun a_ U_ => a_ = #[(.ref tk), (.ref a)] ∧ Z.Warmed39 U_.vm ∧ U_.heap = h0) (fun _ _ _ _ _ => True) (fun _ U_ o_ W_ => ∃ v_ L_, o_ = .returned v_ ∧ own_QV h0 n0 v_ W_.heap L_ ∧ FrameEnd U_ o_ W_ L_ ({ frames := 0, cells := 0, slots := 0, locals := 0 } : Room).cells ({ frames := 0, cells := 0, slots := 0, locals := 0 } : Room).slots) := by
  refine MetFree.of_bodySF (plainFor_of_name pn_up) hisR ?_
  intro pP eE sS mI args below meth cC s₁ Bd hml0 hP hK
  obtain ⟨rfl, hZ, hh⟩ := hP
  have hx := Bd.exec
  have hby := Bd.bytes
  have hml : cC.maxLocals = 2 := hml0
  have hown : sS.vm.findClass own_TP = some mI.cls := by have z := findClass_of_methodNamed Bd.named; exact z
  have hnm := (name_of_methodNamed Bd.named Bd.method).1
  have X0 : Stand pP lL eE ({ frames := 0, cells := 0, slots := 0, locals := 0 } : Room) sS mI #[(.ref tk), (.ref a)] below meth cC s₁ [] 0 0 := Stand.of_body Bd
  have e0 : s₁.heap = h0 := by rw [← hh, Bd.state]; rfl
  have N0 := Fr.nil n0
  obtain ⟨G, hG, hst, hend⟩ := own_abs pP eE below sS (own_QV h0 n0) ({ frames := 0, cells := 0, slots := 0, locals := 0 } : Room).cells ({ frames := 0, cells := 0, slots := 0, locals := 0 } : Room).slots
  refine hG (S := s₁.setTop (entryFrame mI #[(.ref tk), (.ref a)] 2)) (hst (fun t_ kt_ => castTop (ef_up mI tk a) kt_) ?_)
  show G (s₁.setTop (mkF mI 0 #[.val (.ref tk), .val (.ref a)] []))
  exact hend (own_goVoid X0 hx Bd.returns (hb hby dup_0) Bd.notSynchronized (by rw [e0]; exact ⟨rfl, N0, rfl⟩) (by decide) (by decide))
theorem dsp0_0 : decode prog_159_method_10_code 0 = .ok (.aload_n 1, 1) := by decide +kernel
theorem dsp0_1 : decode prog_159_method_10_code 1 = .ok (.ifnonnull 8, 3) := by decide +kernel
theorem dsp0_4 : decode prog_159_method_10_code 4 = .ok (.iconst 2, 1) := by decide +kernel
theorem dsp0_5 : decode prog_159_method_10_code 5 = .ok (.anewarray 50, 3) := by decide +kernel
theorem dsp0_8 : decode prog_159_method_10_code 8 = .ok (.areturn, 1) := by decide +kernel
theorem ef_sp0 (mI : MethodId) (tk : Addr) (v : Value) (n : Addr) (e_v : v.isRef = true) : entryFrame mI #[(.ref tk), v, (.ref n)] 4 = mkF mI 0 #[.val (.ref tk), .val v, .val (.ref n), .unset] [] := by rcases ref_cases e_v with rfl | ⟨_, rfl⟩ <;> first | (simp [entryFrame, mkF, argsToLocals, Value.category]; done) | rfl
theorem pn_sp0 : plainName own_TP = true := by first | decide +kernel | (simp [plainName, overriddenIn]; done)
set_option maxRecDepth 65536 in
set_option maxHeartbeats 40000000 in
theorem rmsp0 (lL : Launch) (Z : State) (a0 : Array Value) (hw : ∀ d ∈ tables_1, d.before a0 Z = true) (ws : List Jvm.Cond) (tk : Addr) (v : Value) (n : Addr) (Lq : List own_R) (pn : Int32) (ln : Int64) (h0 : Heap) (n0 : Nat) (Z0 : n0 ≤ h0.size) (hv : v.isRef = true) (E_tk : Exa Z h0 tk own_S1) (C_t : own_Tr Z h0 0 v Lq) (F_places_n : Fld Z h0 n own_ST "places" "I" (.int pn)) (F_low_n : Fld Z h0 n own_ST "low" "J" (.long ln)) (D_n : n ∉ own_as Lq) (D_L : (own_as Lq).Pairwise (· ≠ ·)) (S_L : Lq.Pairwise own_bf) (B_L : ∀ x ∈ own_as Lq, n0 ≤ x) :
    MetFree lL (⟨own_TP, "split", "(Lcom/example/tierfold/tierfold/tiered/SharedTail;Lcom/example/tierfold/tierfold/tiered/SharedTail;)[Lcom/example/tierfold/tierfold/tiered/SharedTail;"⟩ : MethodName) (head1 (Jvm.Cond.code (⟨own_TP, "split", "(Lcom/example/tierfold/tierfold/tiered/SharedTail;Lcom/example/tierfold/tierfold/tiered/SharedTail;)[Lcom/example/tierfold/tierfold/tiered/SharedTail;"⟩ : MethodName) prog_159_method_10_code 4 (some (.array (.object own_ST))) :: ws) ({ frames := 0, cells := 1, slots := 2, locals := 0 } : Room)) (fun a_ U_ => a_ = #[(.ref tk), v, (.ref n)] ∧ Z.Warmed39 U_.vm ∧ U_.heap = h0) (fun _ _ _ _ _ => True) (fun _ U_ o_ W_ => ∃ v_ L_, o_ = .returned v_ ∧ own_Qsp Z 0 pn ln Lq h0 n0 v_ W_.heap L_ ∧ FrameEnd U_ o_ W_ L_ ({ frames := 0, cells := 1, slots := 2, locals := 0 } : Room).cells ({ frames := 0, cells := 1, slots := 2, locals := 0 } : Room).slots) := by
  refine MetFree.of_bodySF (plainFor_of_name pn_sp0) hisR ?_
  intro pP eE sS mI args below meth cC s₁ Bd hml0 hP hK
  obtain ⟨rfl, hZ, hh⟩ := hP
  have hx := Bd.exec
  have hby := Bd.bytes
  have hml : cC.maxLocals = 4 := hml0
  have hown : sS.vm.findClass own_TP = some mI.cls := by have z := findClass_of_methodNamed Bd.named; exact z
  have hnm := (name_of_methodNamed Bd.named Bd.method).1
  have X0 : Stand pP lL eE ({ frames := 0, cells := 1, slots := 2, locals := 0 } : Room) sS mI #[(.ref tk), v, (.ref n)] below meth cC s₁ [] 0 0 := Stand.of_body Bd
  have e0 : s₁.heap = h0 := by rw [← hh, Bd.state]; rfl
  have N0 := Fr.nil n0
  obtain ⟨G, hG, hst, hend⟩ := own_abs pP eE below sS (own_Qsp Z 0 pn ln Lq h0 n0) ({ frames := 0, cells := 1, slots := 2, locals := 0 } : Room).cells ({ frames := 0, cells := 1, slots := 2, locals := 0 } : Room).slots
  refine hG (S := s₁.setTop (entryFrame mI #[(.ref tk), v, (.ref n)] 4)) (hst (fun t_ kt_ => castTop (ef_sp0 mI tk v n hv) kt_) ?_)
  have Z1 := Nat.le_refl h0.size
  obtain ⟨rfl, rfl⟩ := own_Tr_0 C_t
  have K0 := Keep.refl h0 (own_as [])
  show G (s₁.setTop (mkF mI 0 #[.val (.ref tk), .val .null, .val (.ref n), .unset] []))
  refine o_aloadN hst X0.here hx (hb hby dsp0_0) (pc' := 1) rfl rfl rfl ?_
  refine hst (fun _ kt => XS.ifnonnullNo X0.here hx rfl (hb hby dsp0_1) rfl kt) ?_
  show G (s₁.setTop (mkF mI 4 #[.val (.ref tk), .val .null, .val (.ref n), .unset] []))
  refine o_iconst hst X0.here hx (hb hby dsp0_4) (pc' := 5) rfl (z := (2 : Int32)) rfl ?_
  obtain ⟨T_1, h_1, k_ar, X_1, e_1, E_1, A_1, O_ar, st_1⟩ := newR X0 hx hZ hown (own_w167 hw) (own_w168 hw) e0 (g := (mkF mI 5 #[.val (.ref tk), .val .null, .val (.ref n), .unset] [(.int (2 : Int32))])) rfl (hb hby dsp0_5) rfl (by decide) (cap := 2) (by decide) (by decide) (by decide) (by decide)
  obtain ⟨ar, g_ar⟩ : ∃ z, z = h0.size := ⟨_, rfl⟩
  rw [← g_ar] at A_1 st_1
  have le_n0_ar : n0 ≤ ar := Nat.le_trans Z0 (Nat.le_of_eq g_ar.symm)
  have le_hh_ar : h0.size ≤ ar := Nat.le_trans Z1 (Nat.le_of_eq g_ar.symm)
  have Z0 := Nat.le_trans Z0 E_1.1
  have Z1 := Nat.le_trans Z1 E_1.1
  have K0 := K0.ext E_1
  have V_ar : Arv Z h_1 ar k_ar (.object own_ST) (2 : Int32) [.null, .null] .null := (Arv.new A_1 (by decide)).pad (pad_rep [] .null 2)
  refine hst st_1 ?_
  show G (T_1.setTop (mkF mI 8 #[.val (.ref tk), .val .null, .val (.ref n), .unset] [(.ref ar)]))
  exact hend (own_goRet X_1 hx Bd.returns rfl (Or.inr (Or.inr (Or.inr (Or.inr ⟨rfl, rfl, rfl⟩)))) (hb hby dsp0_8) Bd.notSynchronized (by rw [e_1]; exact ⟨ar, k_ar, .null, .null, [], [], rfl, N0, K0, le_hh_ar, V_ar, O_ar, own_Tr_null, own_Tr_null, rfl, (fun _ q => nomatch q), (fun _ q => nomatch q)⟩) (by decide) (by decide))
theorem dsp1_0 : decode prog_159_method_10_code 0 = .ok (.aload_n 1, 1) := by decide +kernel
theorem dsp1_1 : decode prog_159_method_10_code 1 = .ok (.ifnonnull 8, 3) := by decide +kernel
theorem dsp1_4 : decode prog_159_method_10_code 4 = .ok (.iconst 2, 1) := by decide +kernel
theorem dsp1_5 : decode prog_159_method_10_code 5 = .ok (.anewarray 50, 3) := by decide +kernel
theorem dsp1_8 : decode prog_159_method_10_code 8 = .ok (.areturn, 1) := by decide +kernel
theorem dsp1_9 : decode prog_159_method_10_code 9 = .ok (.aload_n 1, 1) := by decide +kernel
theorem dsp1_10 : decode prog_159_method_10_code 10 = .ok (.aload_n 2, 1) := by decide +kernel
theorem dsp1_11 : decode prog_159_method_10_code 11 = .ok (.invokestatic 28, 3) := by decide +kernel
theorem dsp1_14 : decode prog_159_method_10_code 14 = .ok (.ifCond .eq 33, 3) := by decide +kernel
theorem dsp1_17 : decode prog_159_method_10_code 17 = .ok (.aload_n 0, 1) := by decide +kernel
theorem dsp1_18 : decode prog_159_method_10_code 18 = .ok (.aload_n 0, 1) := by decide +kernel
theorem dsp1_19 : decode prog_159_method_10_code 19 = .ok (.aload_n 1, 1) := by decide +kernel
theorem dsp1_20 : decode prog_159_method_10_code 20 = .ok (.invokevirtual 40, 3) := by decide +kernel
theorem dsp1_23 : decode prog_159_method_10_code 23 = .ok (.aload_n 2, 1) := by decide +kernel
theorem dsp1_24 : decode prog_159_method_10_code 24 = .ok (.invokevirtual 13, 3) := by decide +kernel
theorem dsp1_27 : decode prog_159_method_10_code 27 = .ok (.astore_n 3, 1) := by decide +kernel
theorem dsp1_28 : decode prog_159_method_10_code 28 = .ok (.aload_n 0, 1) := by decide +kernel
theorem dsp1_29 : decode prog_159_method_10_code 29 = .ok (.aload_n 1, 1) := by decide +kernel
theorem dsp1_30 : decode prog_159_method_10_code 30 = .ok (.aload_n 3, 1) := by decide +kernel
theorem dsp1_31 : decode prog_159_method_10_code 31 = .ok (.iconst 0, 1) := by decide +kernel
theorem dsp1_32 : decode prog_159_method_10_code 32 = .ok (.aaload, 1) := by decide +kernel
theorem dsp1_33 : decode prog_159_method_10_code 33 = .ok (.invokevirtual 21, 3) := by decide +kernel
theorem dsp1_36 : decode prog_159_method_10_code 36 = .ok (.aload_n 0, 1) := by decide +kernel
theorem dsp1_37 : decode prog_159_method_10_code 37 = .ok (.aload_n 1, 1) := by decide +kernel
theorem dsp1_38 : decode prog_159_method_10_code 38 = .ok (.invokevirtual 24, 3) := by decide +kernel
theorem dsp1_41 : decode prog_159_method_10_code 41 = .ok (.aload_n 3, 1) := by decide +kernel
theorem dsp1_42 : decode prog_159_method_10_code 42 = .ok (.iconst 0, 1) := by decide +kernel
theorem dsp1_43 : decode prog_159_method_10_code 43 = .ok (.aload_n 1, 1) := by decide +kernel
theorem dsp1_44 : decode prog_159_method_10_code 44 = .ok (.aastore, 1) := by decide +kernel
theorem dsp1_45 : decode prog_159_method_10_code 45 = .ok (.aload_n 3, 1) := by decide +kernel
theorem dsp1_46 : decode prog_159_method_10_code 46 = .ok (.areturn, 1) := by decide +kernel
theorem dsp1_47 : decode prog_159_method_10_code 47 = .ok (.aload_n 0, 1) := by decide +kernel
theorem dsp1_48 : decode prog_159_method_10_code 48 = .ok (.aload_n 0, 1) := by decide +kernel
theorem dsp1_49 : decode prog_159_method_10_code 49 = .ok (.aload_n 1, 1) := by decide +kernel
theorem dsp1_50 : decode prog_159_method_10_code 50 = .ok (.invokevirtual 32, 3) := by decide +kernel
theorem dsp1_53 : decode prog_159_method_10_code 53 = .ok (.aload_n 2, 1) := by decide +kernel
theorem dsp1_54 : decode prog_159_method_10_code 54 = .ok (.invokevirtual 13, 3) := by decide +kernel
theorem dsp1_57 : decode prog_159_method_10_code 57 = .ok (.astore_n 3, 1) := by decide +kernel
theorem dsp1_58 : decode prog_159_method_10_code 58 = .ok (.aload_n 0, 1) := by decide +kernel
theorem dsp1_59 : decode prog_159_method_10_code 59 = .ok (.aload_n 1, 1) := by decide +kernel
theorem dsp1_60 : decode prog_159_method_10_code 60 = .ok (.aload_n 3, 1) := by decide +kernel
theorem dsp1_61 : decode prog_159_method_10_code 61 = .ok (.iconst 1, 1) := by decide +kernel
theorem dsp1_62 : decode prog_159_method_10_code 62 = .ok (.aaload, 1) := by decide +kernel
theorem dsp1_63 : decode prog_159_method_10_code 63 = .ok (.invokevirtual 17, 3) := by decide +kernel
theorem dsp1_66 : decode prog_159_method_10_code 66 = .ok (.aload_n 0, 1) := by decide +kernel
theorem dsp1_67 : decode prog_159_method_10_code 67 = .ok (.aload_n 1, 1) := by decide +kernel
theorem dsp1_68 : decode prog_159_method_10_code 68 = .ok (.invokevirtual 24, 3) := by decide +kernel
theorem dsp1_71 : decode prog_159_method_10_code 71 = .ok (.aload_n 3, 1) := by decide +kernel
theorem dsp1_72 : decode prog_159_method_10_code 72 = .ok (.iconst 1, 1) := by decide +kernel
theorem dsp1_73 : decode prog_159_method_10_code 73 = .ok (.aload_n 1, 1) := by decide +kernel
theorem dsp1_74 : decode prog_159_method_10_code 74 = .ok (.aastore, 1) := by decide +kernel
theorem dsp1_75 : decode prog_159_method_10_code 75 = .ok (.aload_n 3, 1) := by decide +kernel
theorem dsp1_76 : decode prog_159_method_10_code 76 = .ok (.areturn, 1) := by decide +kernel
theorem ef_sp1 (mI : MethodId) (tk : Addr) (v : Value) (n : Addr) (e_v : v.isRef = true) : entryFrame mI #[(.ref tk), v, (.ref n)] 4 = mkF mI 0 #[.val (.ref tk), .val v, .val (.ref n), .unset] [] := by rcases ref_cases e_v with rfl | ⟨_, rfl⟩ <;> first | (simp [entryFrame, mkF, argsToLocals, Value.category]; done) | rfl
theorem pn_sp1 : plainName own_TP = true := by first | decide +kernel | (simp [plainName, overriddenIn]; done)
set_option maxRecDepth 65536 in
set_option maxHeartbeats 40000000 in
theorem rmsp1 (lL : Launch) (Z : State) (a0 : Array Value) (hw : ∀ d ∈ tables_1, d.before a0 Z = true) (ws : List Jvm.Cond) (tk : Addr) (v : Value) (n : Addr) (Lq : List own_R) (pn : Int32) (ln : Int64) (h0 : Heap) (n0 : Nat) (Z0 : n0 ≤ h0.size) (hv : v.isRef = true) (E_tk : Exa Z h0 tk own_S1) (C_t : own_Tr Z h0 1 v Lq) (F_places_n : Fld Z h0 n own_ST "places" "I" (.int pn)) (F_low_n : Fld Z h0 n own_ST "low" "J" (.long ln)) (D_n : n ∉ own_as Lq) (D_L : (own_as Lq).Pairwise (· ≠ ·)) (S_L : Lq.Pairwise own_bf) (B_L : ∀ x ∈ own_as Lq, n0 ≤ x) :
    MetFree lL (⟨own_TP, "split", "(Lcom/example/tierfold/tierfold/tiered/SharedTail;Lcom/example/tierfold/tierfold/tiered/SharedTail;)[Lcom/example/tierfold/tierfold/tiered/SharedTail;"⟩ : MethodName) (head1 (Jvm.Cond.code (⟨own_TP, "split", "(Lcom/example/tierfold/tierfold/tiered/SharedTail;Lcom/example/tierfold/tierfold/tiered/SharedTail;)[Lcom/example/tierfold/tierfold/tiered/SharedTail;"⟩ : MethodName) prog_159_method_10_code 4 (some (.array (.object own_ST))) :: ws) ({ frames := 1, cells := 1, slots := 2, locals := 15 } : Room)) (fun a_ U_ => a_ = #[(.ref tk), v, (.ref n)] ∧ Z.Warmed39 U_.vm ∧ U_.heap = h0) (fun _ _ _ _ _ => True) (fun _ U_ o_ W_ => ∃ v_ L_, o_ = .returned v_ ∧ own_Qsp Z 1 pn ln Lq h0 n0 v_ W_.heap L_ ∧ FrameEnd U_ o_ W_ L_ ({ frames := 1, cells := 1, slots := 2, locals := 15 } : Room).cells ({ frames := 1, cells := 1, slots := 2, locals := 15 } : Room).slots) := by
  refine MetFree.of_bodySF (plainFor_of_name pn_sp1) hisR ?_
  intro pP eE sS mI args below meth cC s₁ Bd hml0 hP hK
  obtain ⟨rfl, hZ, hh⟩ := hP
  have hx := Bd.exec
  have hby := Bd.bytes
  have hml : cC.maxLocals = 4 := hml0
  have hown : sS.vm.findClass own_TP = some mI.cls := by have z := findClass_of_methodNamed Bd.named; exact z
  have hnm := (name_of_methodNamed Bd.named Bd.method).1
  have X0 : Stand pP lL eE ({ frames := 1, cells := 1, slots := 2, locals := 15 } : Room) sS mI #[(.ref tk), v, (.ref n)] below meth cC s₁ [] 0 0 := Stand.of_body Bd
  have e0 : s₁.heap = h0 := by rw [← hh, Bd.state]; rfl
  have N0 := Fr.nil n0
  obtain ⟨G, hG, hst, hend⟩ := own_abs pP eE below sS (own_Qsp Z 1 pn ln Lq h0 n0) ({ frames := 1, cells := 1, slots := 2, locals := 15 } : Room).cells ({ frames := 1, cells := 1, slots := 2, locals := 15 } : Room).slots
  refine hG (S := s₁.setTop (entryFrame mI #[(.ref tk), v, (.ref n)] 4)) (hst (fun t_ kt_ => castTop (ef_sp1 mI tk v n hv) kt_) ?_)
  have Z1 := Nat.le_refl h0.size
  rcases own_Tr_S C_t with ⟨rfl, rfl⟩ | ⟨a, pa, la, ga, vl, vr, L1, L2, rfl, rfl, ⟨E_a, F_places_a, F_low_a, F_high_a, F_firstRun_a, zk_a, F_kept_a⟩, ⟨F_keptLeft_a, F_keptRight_a⟩, C_l, C_r⟩
  ·
    have K0 := Keep.refl h0 (own_as [])
    show G (s₁.setTop (mkF mI 0 #[.val (.ref tk), .val .null, .val (.ref n), .unset] []))
    refine o_aloadN hst X0.here hx (hb hby dsp1_0) (pc' := 1) rfl rfl rfl ?_
    refine hst (fun _ kt => XS.ifnonnullNo X0.here hx rfl (hb hby dsp1_1) rfl kt) ?_
    show G (s₁.setTop (mkF mI 4 #[.val (.ref tk), .val .null, .val (.ref n), .unset] []))
    refine o_iconst hst X0.here hx (hb hby dsp1_4) (pc' := 5) rfl (z := (2 : Int32)) rfl ?_
    obtain ⟨T_1, h_1, k_ar, X_1, e_1, E_1, A_1, O_ar, st_1⟩ := newR X0 hx hZ hown (own_w167 hw) (own_w168 hw) e0 (g := (mkF mI 5 #[.val (.ref tk), .val .null, .val (.ref n), .unset] [(.int (2 : Int32))])) rfl (hb hby dsp1_5) rfl (by decide) (cap := 2) (by decide) (by decide) (by decide) (by decide)
    obtain ⟨ar, g_ar⟩ : ∃ z, z = h0.size := ⟨_, rfl⟩
    rw [← g_ar] at A_1 st_1
    have le_n0_ar : n0 ≤ ar := Nat.le_trans Z0 (Nat.le_of_eq g_ar.symm)
    have le_hh_ar : h0.size ≤ ar := Nat.le_trans Z1 (Nat.le_of_eq g_ar.symm)
    have Z0 := Nat.le_trans Z0 E_1.1
    have Z1 := Nat.le_trans Z1 E_1.1
    have K0 := K0.ext E_1
    have V_ar : Arv Z h_1 ar k_ar (.object own_ST) (2 : Int32) [.null, .null] .null := (Arv.new A_1 (by decide)).pad (pad_rep [] .null 2)
    refine hst st_1 ?_
    show G (T_1.setTop (mkF mI 8 #[.val (.ref tk), .val .null, .val (.ref n), .unset] [(.ref ar)]))
    exact hend (own_goRet X_1 hx Bd.returns rfl (Or.inr (Or.inr (Or.inr (Or.inr ⟨rfl, rfl, rfl⟩)))) (hb hby dsp1_8) Bd.notSynchronized (by rw [e_1]; exact ⟨ar, k_ar, .null, .null, [], [], rfl, N0, K0, le_hh_ar, V_ar, O_ar, own_Tr_null, own_Tr_null, rfl, (fun _ q => nomatch q), (fun _ q => nomatch q)⟩) (by decide) (by decide))
  ·
    obtain ⟨dA1, dA2, d12, DL1, DL2⟩ := own_D D_L
    obtain ⟨sA1, sA2, SL1, SL2⟩ := own_S S_L
    have dN := own_nin D_n
    have le_n0_a := B_L a own_in_m
    have hvl := own_Tr_ref C_l
    have hvr := own_Tr_ref C_r
    have K0 := Keep.refl h0 (own_as (L1 ++ (a, pa, la, ga) :: L2))
    show G (s₁.setTop (mkF mI 0 #[.val (.ref tk), .val (.ref a), .val (.ref n), .unset] []))
    refine o_aloadN hst X0.here hx (hb hby dsp1_0) (pc' := 1) rfl rfl rfl ?_
    refine hst (fun _ kt => XS.ifnonnullYes X0.here hx rfl (pc0 := 1) (pc' := 9) rfl (hb hby dsp1_1) rfl (by decide) (by decide) kt) ?_
    show G (s₁.setTop (mkF mI 9 #[.val (.ref tk), .val (.ref a), .val (.ref n), .unset] []))
    refine o_aloadN hst X0.here hx (hb hby dsp1_9) (pc' := 10) rfl rfl rfl ?_
    refine o_aloadN hst X0.here hx (hb hby dsp1_10) (pc' := 11) rfl rfl rfl ?_
    obtain ⟨_, _, ⟨T_2, L_2, k_2, n_2⟩, -, X_2, ⟨Lc_2, hQ_2, l_2, y_2, z_2⟩, st_2⟩ := Jvm.LawKit.callS X0 hx (y := (⟨own_TP, "before", "(Lcom/example/tierfold/tierfold/tiered/SharedTail;Lcom/example/tierfold/tierfold/tiered/SharedTail;)Z"⟩ : MethodName)) hown (mvT hZ (own_w141 hw)) (mvT hZ (own_w142 hw)) (mvT hZ (own_w129 hw)) (mvT hZ (own_w143 hw)) (by decide) (backOf (W := 0) (rmbf lL Z a0 hw [] a n pa la pn ln h0 n0 Z0 F_places_a F_low_a F_places_n F_low_n) hZ (own_w143 hw) (own_w129 hw) (by decide) (by decide)) (g := (mkF mI 11 #[.val (.ref tk), .val (.ref a), .val (.ref n), .unset] [(.ref n), (.ref a)])) rfl (by rw [hml]; rfl) (argsL := [(.ref a), (.ref n)]) (rest := []) (lenOf pd_4 rfl) rfl (by show 2 * 0 + _ ≤ _; exact Nat.le_of_eq rfl) (hb hby dsp1_11) (fun _ _ => ⟨rfl, e0, (by decide : 0 + 0 ≤ _), (by decide : 0 + 0 ≤ _)⟩)
    dsimp only [Pt.U, Pt.locs, Pt.cells, Pt.slots] at X_2 l_2 y_2 z_2 st_2 hQ_2
    subst l_2 y_2 z_2
    obtain ⟨rfl, N_2q, eh_2⟩ := hQ_2
    have N_2 := Fr.app N0 N_2q
    refine hst (fun _ kt => st_2 _ kt) ?_
    show G (T_2.setTop (mkF mI 14 #[.val (.ref tk), .val (.ref a), .val (.ref n), .unset] [(.int (own_bI pa la pn ln))]))
    by_cases hI : (own_bI pa la pn ln) = (0 : Int32)
    ·
      refine hst (fun _ kt => XS.ifYes X_2.here hx rfl (pc0 := 14) (pc' := 47) rfl (hb hby dsp1_14) rfl ((if0 _ _).trans (teq hI).1) (by decide) (by decide) kt) ?_
      show G (T_2.setTop (mkF mI 47 #[.val (.ref tk), .val (.ref a), .val (.ref n), .unset] []))
      have hB := own_bI_eq hI
      refine o_aloadN hst X_2.here hx (hb hby dsp1_47) (pc' := 48) rfl rfl rfl ?_
      refine o_aloadN hst X_2.here hx (hb hby dsp1_48) (pc' := 49) rfl rfl rfl ?_
      refine o_aloadN hst X_2.here hx (hb hby dsp1_49) (pc' := 50) rfl rfl rfl ?_
      obtain ⟨cq_3, kq_3, q_3a, q_3b, q_3c⟩ := isOf hZ eh_2 E_tk
      obtain ⟨_, _, ⟨T_3, L_3, k_3, n_3⟩, -, X_3, ⟨Lc_3, hQ_3, l_3, y_3, z_3⟩, st_3⟩ := X_2.virtualBack hx (y := (⟨own_TP, "left", "(Lcom/example/tierfold/tierfold/tiered/SharedTail;)Lcom/example/tierfold/tierfold/tiered/SharedTail;"⟩ : MethodName)) (z := (⟨own_S1, "left", "(Lcom/example/tierfold/tierfold/tiered/SharedTail;)Lcom/example/tierfold/tierfold/tiered/SharedTail;"⟩ : MethodName)) hown (mvT hZ (own_w187 hw)) (mvT hZ (own_w188 hw)) (own_nf (y1 := (⟨own_TP, "insert", "(Lcom/example/tierfold/tierfold/tiered/SharedTail;Lcom/example/tierfold/tierfold/tiered/SharedTail;)Lcom/example/tierfold/tierfold/tiered/SharedTail;"⟩ : MethodName)) (notFace_of_selects (args := #[]) (mvT hZ (own_w128 hw))) rfl (mvT (args := #[]) hZ (own_w127 hw))) (mvT hZ (own_w189 hw)) (mvT hZ (own_w190 hw)) (by decide) (backOf (W := 1) (rmle lL Z a0 hw [] tk a vl h0 n0 Z0 hvl F_keptLeft_a) hZ (own_w191 hw) (own_w148 hw) (by decide) (by decide)) q_3a q_3c (g := (mkF mI 50 #[.val (.ref tk), .val (.ref a), .val (.ref n), .unset] [(.ref a), (.ref tk), (.ref tk)])) rfl (by rw [hml]; rfl) (Steps.refl _) (argsL := [(.ref a)]) (rest := [(.ref tk)]) (lenOf pd_5 rfl) rfl (by show 2 * 0 + _ ≤ _; exact Nat.le_of_eq rfl) (hb hby dsp1_50) (fun _ _ => ⟨rfl, eh_2, (by decide : 0 + 0 ≤ _), (by decide : 0 + 0 ≤ _)⟩)
      dsimp only [Pt.U, Pt.locs, Pt.cells, Pt.slots] at X_3 l_3 y_3 z_3 st_3 hQ_3
      subst l_3 y_3 z_3
      obtain ⟨rfl, N_3q, eh_3⟩ := hQ_3
      have N_3 := Fr.app N_2 N_3q
      refine hst (fun _ kt => st_3.trans kt) ?_
      show G (T_3.setTop (mkF mI 53 #[.val (.ref tk), .val (.ref a), .val (.ref n), .unset] [vl, (.ref tk)]))
      refine o_aloadN hst X_3.here hx (hb hby dsp1_53) (pc' := 54) rfl rfl rfl ?_
      obtain ⟨cq_4, q_4, q_4'⟩ := E_tk.cell
      obtain ⟨_, _, ⟨T_4, L_4, k_4, n_4⟩, -, X_4, ⟨Lc_4, hQ_4, l_4, y_4, z_4⟩, st_4⟩ := X_3.privateBack hx (y := (⟨own_TP, "split", "(Lcom/example/tierfold/tierfold/tiered/SharedTail;Lcom/example/tierfold/tierfold/tiered/SharedTail;)[Lcom/example/tierfold/tierfold/tiered/SharedTail;"⟩ : MethodName)) hown (mvT hZ (own_w163 hw)) (mvT hZ (own_w164 hw)) (own_selp (own_nf (y1 := (⟨own_TP, "insert", "(Lcom/example/tierfold/tierfold/tiered/SharedTail;Lcom/example/tierfold/tierfold/tiered/SharedTail;)Lcom/example/tierfold/tierfold/tiered/SharedTail;"⟩ : MethodName)) (notFace_of_selects (args := #[]) (mvT hZ (own_w128 hw))) rfl (mvT (args := #[]) hZ (own_w127 hw))) (Cond.privateMethod_at (mvP hZ (own_w165 hw) (args := #[]))) (mvT hZ (own_w164 hw)) (by decide)) (Cond.privateMethod_at (mvP hZ (own_w165 hw) (args := #[]))) (mvT hZ (own_w166 hw)) (by decide) (backOf (W := 0) (rmsp0 lL Z a0 hw [] tk vl n L1 pn ln h0 n0 Z0 hvl E_tk C_l F_places_n F_low_n dN.1 DL1 SL1 (fun x hx => B_L x (own_in_l hx))) hZ (own_w166 hw) (own_w129 hw) (by decide) (by decide)) (g := (mkF mI 54 #[.val (.ref tk), .val (.ref a), .val (.ref n), .unset] [(.ref n), vl, (.ref tk)])) rfl (by rw [hml]; rfl) (Steps.refl _) (a := tk) (by rw [eh_3]; exact q_4) q_4' (argsL := [vl, (.ref n)]) (rest := []) (lenOf pd_6 rfl) rfl (by show 2 * 0 + _ ≤ _; exact Nat.le_of_eq rfl) (hb hby dsp1_54) (fun _ _ => ⟨rfl, eh_3, (by decide : 0 + 1 ≤ _), (by decide : 0 + 2 ≤ _)⟩)
      dsimp only [Pt.U, Pt.locs, Pt.cells, Pt.slots] at X_4 l_4 y_4 z_4 st_4 hQ_4
      subst l_4 y_4 z_4
      obtain ⟨ar, kar, w1, w2, M1, M2, rfl, N_4q, K_4, le_ar, V_ar, O_ar, C_1, C_2, eL, B1, B2⟩ := hQ_4
      have ne_a_ar : a ≠ ar := Nat.ne_of_lt (Nat.lt_of_lt_of_le E_a.lt le_ar)
      have fO := own_Tr_fresh C_r le_ar
      have fS := own_Tr_fresh C_l le_ar
      have le_n0_ar := Nat.le_trans Z0 le_ar
      have le_hh_ar := Nat.le_trans Z1 le_ar
      have Z0 := Nat.le_trans Z0 K_4.1
      have Z1 := Nat.le_trans Z1 K_4.1
      have E_tk := E_tk.keep K_4
      have E_a := E_a.keep K_4
      have F_places_a := F_places_a.keep K_4 dA1
      have F_low_a := F_low_a.keep K_4 dA1
      have F_high_a := F_high_a.keep K_4 dA1
      have F_firstRun_a := F_firstRun_a.keep K_4 dA1
      have F_kept_a := F_kept_a.keep K_4 dA1
      have F_keptLeft_a := F_keptLeft_a.keep K_4 dA1
      have F_keptRight_a := F_keptRight_a.keep K_4 dA1
      have C_r := own_Tr_keep K_4 _ _ _ C_r (fun x hx hy => d12 x hy hx)
      have K0 := K0.trans K_4 (fun x hx => Or.inl (own_in_l hx))
      subst eL
      obtain ⟨dM1, dM2⟩ := own_ninA dA1
      obtain ⟨fM1, fM2⟩ := own_ninA fS
      have hw1 := own_Tr_ref C_1
      have hw2 := own_Tr_ref C_2
      have N_4 := Fr.app N_3 N_4q
      refine hst (fun _ kt => st_4.trans kt) ?_
      show G (T_4.setTop (mkF mI 57 #[.val (.ref tk), .val (.ref a), .val (.ref n), .unset] [(.ref ar)]))
      refine o_astoreN hst X_4.here hx (hb hby dsp1_57) (pc' := 58) rfl (Lt := #[.val (.ref tk), .val (.ref a), .val (.ref n), .val (.ref ar)]) rfl rfl ?_
      refine o_aloadN hst X_4.here hx (hb hby dsp1_58) (pc' := 59) rfl rfl rfl ?_
      refine o_aloadN hst X_4.here hx (hb hby dsp1_59) (pc' := 60) rfl rfl rfl ?_
      refine o_aloadN hst X_4.here hx (hb hby dsp1_60) (pc' := 61) rfl rfl rfl ?_
      refine o_iconst hst X_4.here hx (hb hby dsp1_61) (pc' := 62) rfl (z := (1 : Int32)) rfl ?_
      obtain ⟨cl_5, Ar_5, -, S_5, M_5, Hs_5, -⟩ := id V_ar
      have hin_5 : ¬ ((1 : Int32) < 0 ∨ cl_5.slots.size ≤ ((1 : Int32)).toNatClampNeg) := inb_of S_5 ⟨by decide, by decide⟩
      have hat_5 : cl_5.slots[((1 : Int32)).toNatClampNeg]? = some w2 := Has.at Hs_5 hin_5 rfl
      refine hst (X_4.aaload hx (j := (1 : Int32)) (v := w2) Ar_5.1 (State.isArrayOf_alike hZ.alike Ar_5.2.1) rfl Ar_5.2.2 hin_5 hat_5 (g := (mkF mI 62 #[.val (.ref tk), .val (.ref a), .val (.ref n), .val (.ref ar)] [(.int (1 : Int32)), (.ref ar), (.ref a), (.ref tk)])) rfl rfl (hb hby dsp1_62)) ?_
      show G (T_4.setTop (mkF mI 63 #[.val (.ref tk), .val (.ref a), .val (.ref n), .val (.ref ar)] [w2, (.ref a), (.ref tk)]))
      obtain ⟨cq_6, kq_6, q_6a, q_6b, q_6c⟩ := isOf hZ rfl E_tk
      obtain ⟨_, _, ⟨T_6, L_6, k_6, n_6⟩, -, X_6, ⟨Lc_6, hQ_6, l_6, y_6, z_6⟩, st_6⟩ := X_4.virtualBack hx (y := (⟨own_TP, "setLeft", "(Lcom/example/tierfold/tierfold/tiered/SharedTail;Lcom/example/tierfold/tierfold/tiered/SharedTail;)V"⟩ : MethodName)) (z := (⟨own_S1, "setLeft", "(Lcom/example/tierfold/tierfold/tiered/SharedTail;Lcom/example/tierfold/tierfold/tiered/SharedTail;)V"⟩ : MethodName)) hown (mvT hZ (own_w170 hw)) (mvT hZ (own_w171 hw)) (own_nf (y1 := (⟨own_TP, "insert", "(Lcom/example/tierfold/tierfold/tiered/SharedTail;Lcom/example/tierfold/tierfold/tiered/SharedTail;)Lcom/example/tierfold/tierfold/tiered/SharedTail;"⟩ : MethodName)) (notFace_of_selects (args := #[]) (mvT hZ (own_w128 hw))) rfl (mvT (args := #[]) hZ (own_w127 hw))) (mvT hZ (own_w172 hw)) (mvT hZ (own_w173 hw)) (by decide) (backOf (W := 0) (rmsl lL Z a0 hw [] tk a w2 vl vr pa la ga T_4.heap n0 Z0 hw2 ⟨E_a, F_places_a, F_low_a, F_high_a, F_firstRun_a, _, F_kept_a⟩ ⟨F_keptLeft_a, F_keptRight_a⟩ le_n0_a) hZ (own_w174 hw) (own_w148 hw) (by decide) (by decide)) q_6a q_6c (g := (mkF mI 63 #[.val (.ref tk), .val (.ref a), .val (.ref n), .val (.ref ar)] [w2, (.ref a), (.ref tk)])) rfl (by rw [hml]; rfl) (Steps.refl _) (argsL := [(.ref a), w2]) (rest := []) (lenOf pd_7 rfl) rfl (by show 2 * 0 + _ ≤ _; exact Nat.le_of_eq rfl) (hb hby dsp1_63) (fun _ _ => ⟨rfl, rfl, (by decide : 1 + 0 ≤ _), (by decide : 2 + 0 ≤ _)⟩)
      dsimp only [Pt.U, Pt.locs, Pt.cells, Pt.slots] at X_6 l_6 y_6 z_6 st_6 hQ_6
      subst l_6 y_6 z_6
      obtain ⟨rfl, N_6q, K_6, ⟨Gx, G_places_a, G_low_a, G_high_a, G_firstRun_a, zk_a, G_kept_a⟩, ⟨GKl, GKr⟩⟩ := hQ_6
      have Z0 := Nat.le_trans Z0 K_6.1
      have Z1 := Nat.le_trans Z1 K_6.1
      have E_tk := E_tk.keep K_6
      have E_a := E_a.keep K_6
      have C_r := own_Tr_keep K_6 _ _ _ C_r (own_nw dA2)
      have K0 := K0.trans K_6 (allS (Or.inl own_in_m) all0)
      have C_1 := own_Tr_keep K_6 _ _ _ C_1 (own_nw dM1)
      have C_2 := own_Tr_keep K_6 _ _ _ C_2 (own_nw dM2)
      have V_ar := V_ar.keep K_6 (ninS (Ne.symm ne_a_ar) nin0)
      have F_places_a := G_places_a
      have F_low_a := G_low_a
      have F_high_a := G_high_a
      have F_firstRun_a := G_firstRun_a
      have F_kept_a := G_kept_a
      have F_keptLeft_a := GKl
      have F_keptRight_a := GKr
      have N_6 := Fr.app N_4 N_6q
      refine hst (fun _ kt => st_6.trans kt) ?_
      show G (T_6.setTop (mkF mI 66 #[.val (.ref tk), .val (.ref a), .val (.ref n), .val (.ref ar)] []))
      refine o_aloadN hst X_6.here hx (hb hby dsp1_66) (pc' := 67) rfl rfl rfl ?_
      refine o_aloadN hst X_6.here hx (hb hby dsp1_67) (pc' := 68) rfl rfl rfl ?_
      obtain ⟨cq_7, kq_7, q_7a, q_7b, q_7c⟩ := isOf hZ rfl E_tk
      obtain ⟨_, _, ⟨T_7, L_7, k_7, n_7⟩, -, X_7, ⟨Lc_7, hQ_7, l_7, y_7, z_7⟩, st_7⟩ := X_6.virtualBack hx (y := (⟨own_TP, "update", "(Lcom/example/tierfold/tierfold/tiered/SharedTail;)V"⟩ : MethodName)) (z := (⟨own_TP, "update", "(Lcom/example/tierfold/tierfold/tiered/SharedTail;)V"⟩ : MethodName)) hown (mvT hZ (own_w158 hw)) (mvT hZ (own_w159 hw)) (notFace_of_selects (args := #[]) (mvT hZ (own_w161 hw))) (mvT hZ (own_w161 hw)) (mvT hZ (own_w160 hw)) (by decide) (backOf (W := 0) (rmup lL Z a0 hw [] tk a  T_6.heap n0 Z0) hZ (own_w162 hw) (own_w129 hw) (by decide) (by decide)) q_7a q_7c (g := (mkF mI 68 #[.val (.ref tk), .val (.ref a), .val (.ref n), .val (.ref ar)] [(.ref a), (.ref tk)])) rfl (by rw [hml]; rfl) (Steps.refl _) (argsL := [(.ref a)]) (rest := []) (lenOf pd_8 rfl) rfl (by show 2 * 0 + _ ≤ _; exact Nat.le_of_eq rfl) (hb hby dsp1_68) (fun _ _ => ⟨rfl, rfl, (by decide : 1 + 0 ≤ _), (by decide : 2 + 0 ≤ _)⟩)
      dsimp only [Pt.U, Pt.locs, Pt.cells, Pt.slots] at X_7 l_7 y_7 z_7 st_7 hQ_7
      subst l_7 y_7 z_7
      obtain ⟨rfl, N_7q, eh_7⟩ := hQ_7
      have N_7 := Fr.app N_6 N_7q
      refine hst (fun _ kt => st_7.trans kt) ?_
      show G (T_7.setTop (mkF mI 71 #[.val (.ref tk), .val (.ref a), .val (.ref n), .val (.ref ar)] []))
      refine o_aloadN hst X_7.here hx (hb hby dsp1_71) (pc' := 72) rfl rfl rfl ?_
      refine o_iconst hst X_7.here hx (hb hby dsp1_72) (pc' := 73) rfl (z := (1 : Int32)) rfl ?_
      refine o_aloadN hst X_7.here hx (hb hby dsp1_73) (pc' := 74) rfl rfl rfl ?_
      obtain ⟨cl_8, Ar_8, q_8, S_8, M_8, Hs_8, Gs_8⟩ := V_ar
      have hin_8 : ¬ ((1 : Int32) < 0 ∨ cl_8.slots.size ≤ ((1 : Int32)).toNatClampNeg) := inb_of S_8 ⟨by decide, by decide⟩
      obtain ⟨T_8, h_8, X_8, e_8, W_8, st_8⟩ := stR X_7 hx hZ eh_7 Ar_8 (j := (1 : Int32)) (v := (.ref a)) hin_8 rfl (Sto.ofV Ar_8 q_8 O_ar (Ins.self E_a)) (g := (mkF mI 74 #[.val (.ref tk), .val (.ref a), .val (.ref n), .val (.ref ar)] [(.ref a), (.int (1 : Int32)), (.ref ar)])) rfl rfl (hb hby dsp1_74)
      have V_ar := Arv.set Ar_8 q_8 S_8 M_8 Hs_8 Gs_8 rfl W_8 1 rfl (Nat.le_of_ble_eq_true rfl)
      have V_ar : Arv Z h_8 ar kar (.object own_ST) (2 : Int32) [w1, (.ref a)] .null := V_ar
      have Z0 := Nat.le_trans Z0 (Keep.of_wr W_8).1
      have Z1 := Nat.le_trans Z1 (Keep.of_wr W_8).1
      have E_tk := E_tk.wr W_8
      have E_a := E_a.wr W_8
      have C_r := own_Tr_keep (Keep.of_wr W_8) _ _ _ C_r (own_nw fO)
      have K0 := K0.wr W_8 (Or.inr le_hh_ar)
      have C_1 := own_Tr_keep (Keep.of_wr W_8) _ _ _ C_1 (own_nw fM1)
      have C_2 := own_Tr_keep (Keep.of_wr W_8) _ _ _ C_2 (own_nw fM2)
      have F_places_a := F_places_a.other W_8 (Or.inl ne_a_ar)
      have F_low_a := F_low_a.other W_8 (Or.inl ne_a_ar)
      have F_high_a := F_high_a.other W_8 (Or.inl ne_a_ar)
      have F_firstRun_a := F_firstRun_a.other W_8 (Or.inl ne_a_ar)
      have F_kept_a := F_kept_a.other W_8 (Or.inl ne_a_ar)
      have F_keptLeft_a := F_keptLeft_a.other W_8 (Or.inl ne_a_ar)
      have F_keptRight_a := F_keptRight_a.other W_8 (Or.inl ne_a_ar)
      have N_8 := Fr.snoc X_8 N_7 le_n0_ar
      refine hst st_8 ?_
      show G (T_8.setTop (mkF mI 75 #[.val (.ref tk), .val (.ref a), .val (.ref n), .val (.ref ar)] []))
      refine o_aloadN hst X_8.here hx (hb hby dsp1_75) (pc' := 76) rfl rfl rfl ?_
      exact hend (own_goRet X_8 hx Bd.returns rfl (Or.inr (Or.inr (Or.inr (Or.inr ⟨rfl, rfl, rfl⟩)))) (hb hby dsp1_76) Bd.notSynchronized (by rw [e_8]; exact ⟨ar, kar, w1, (.ref a), M1, M2 ++ (a, pa, la, ga) :: L2, rfl, N_8, K0, le_hh_ar, V_ar, O_ar, own_Tr_mono _ _ _ C_1, own_Tr_mk ⟨E_a, F_places_a, F_low_a, F_high_a, F_firstRun_a, _, F_kept_a⟩ ⟨F_keptLeft_a, F_keptRight_a⟩ C_2 C_r, by simp, B1, own_sp2 sA2 hB B2⟩) (by decide) (by decide))
    ·
      refine hst (fun _ kt => XS.ifNo X_2.here hx rfl (hb hby dsp1_14) rfl ((if0 _ _).trans (feq hI).1) kt) ?_
      show G (T_2.setTop (mkF mI 17 #[.val (.ref tk), .val (.ref a), .val (.ref n), .unset] []))
      have hB := own_bI_ne hI
      refine o_aloadN hst X_2.here hx (hb hby dsp1_17) (pc' := 18) rfl rfl rfl ?_
      refine o_aloadN hst X_2.here hx (hb hby dsp1_18) (pc' := 19) rfl rfl rfl ?_
      refine o_aloadN hst X_2.here hx (hb hby dsp1_19) (pc' := 20) rfl rfl rfl ?_
      obtain ⟨cq_9, kq_9, q_9a, q_9b, q_9c⟩ := isOf hZ eh_2 E_tk
      obtain ⟨_, _, ⟨T_9, L_9, k_9, n_9⟩, -, X_9, ⟨Lc_9, hQ_9, l_9, y_9, z_9⟩, st_9⟩ := X_2.virtualBack hx (y := (⟨own_TP, "right", "(Lcom/example/tierfold/tierfold/tiered/SharedTail;)Lcom/example/tierfold/tierfold/tiered/SharedTail;"⟩ : MethodName)) (z := (⟨own_S1, "right", "(Lcom/example/tierfold/tierfold/tiered/SharedTail;)Lcom/example/tierfold/tierfold/tiered/SharedTail;"⟩ : MethodName)) hown (mvT hZ (own_w144 hw)) (mvT hZ (own_w145 hw)) (own_nf (y1 := (⟨own_TP, "insert", "(Lcom/example/tierfold/tierfold/tiered/SharedTail;Lcom/example/tierfold/tierfold/tiered/SharedTail;)Lcom/example/tierfold/tierfold/tiered/SharedTail;"⟩ : MethodName)) (notFace_of_selects (args := #[]) (mvT hZ (own_w128 hw))) rfl (mvT (args := #[]) hZ (own_w127 hw))) (mvT hZ (own_w146 hw)) (mvT hZ (own_w147 hw)) (by decide) (backOf (W := 1) (rmri lL Z a0 hw [] tk a vr h0 n0 Z0 hvr F_keptRight_a) hZ (own_w149 hw) (own_w148 hw) (by decide) (by decide)) q_9a q_9c (g := (mkF mI 20 #[.val (.ref tk), .val (.ref a), .val (.ref n), .unset] [(.ref a), (.ref tk), (.ref tk)])) rfl (by rw [hml]; rfl) (Steps.refl _) (argsL := [(.ref a)]) (rest := [(.ref tk)]) (lenOf pd_5 rfl) rfl (by show 2 * 0 + _ ≤ _; exact Nat.le_of_eq rfl) (hb hby dsp1_20) (fun _ _ => ⟨rfl, eh_2, (by decide : 0 + 0 ≤ _), (by decide : 0 + 0 ≤ _)⟩)
      dsimp only [Pt.U, Pt.locs, Pt.cells, Pt.slots] at X_9 l_9 y_9 z_9 st_9 hQ_9
      subst l_9 y_9 z_9
      obtain ⟨rfl, N_9q, eh_9⟩ := hQ_9
      have N_9 := Fr.app N_2 N_9q
      refine hst (fun _ kt => st_9.trans kt) ?_
      show G (T_9.setTop (mkF mI 23 #[.val (.ref tk), .val (.ref a), .val (.ref n), .unset] [vr, (.ref tk)]))
      refine o_aloadN hst X_9.here hx (hb hby dsp1_23) (pc' := 24) rfl rfl rfl ?_
      obtain ⟨cq_10, q_10, q_10'⟩ := E_tk.cell
      obtain ⟨_, _, ⟨T_10, L_10, k_10, n_10⟩, -, X_10, ⟨Lc_10, hQ_10, l_10, y_10, z_10⟩, st_10⟩ := X_9.privateBack hx (y := (⟨own_TP, "split", "(Lcom/example/tierfold/tierfold/tiered/SharedTail;Lcom/example/tierfold/tierfold/tiered/SharedTail;)[Lcom/example/tierfold/tierfold/tiered/SharedTail;"⟩ : MethodName)) hown (mvT hZ (own_w163 hw)) (mvT hZ (own_w164 hw)) (own_selp (own_nf (y1 := (⟨own_TP, "insert", "(Lcom/example/tierfold/tierfold/tiered/SharedTail;Lcom/example/tierfold/tierfold/tiered/SharedTail;)Lcom/example/tierfold/tierfold/tiered/SharedTail;"⟩ : MethodName)) (notFace_of_selects (args := #[]) (mvT hZ (own_w128 hw))) rfl (mvT (args := #[]) hZ (own_w127 hw))) (Cond.privateMethod_at (mvP hZ (own_w165 hw) (args := #[]))) (mvT hZ (own_w164 hw)) (by decide)) (Cond.privateMethod_at (mvP hZ (own_w165 hw) (args := #[]))) (mvT hZ (own_w166 hw)) (by decide) (backOf (W := 0) (rmsp0 lL Z a0 hw [] tk vr n L2 pn ln h0 n0 Z0 hvr E_tk C_r F_places_n F_low_n dN.2.2 DL2 SL2 (fun x hx => B_L x (own_in_r hx))) hZ (own_w166 hw) (own_w129 hw) (by decide) (by decide)) (g := (mkF mI 24 #[.val (.ref tk), .val (.ref a), .val (.ref n), .unset] [(.ref n), vr, (.ref tk)])) rfl (by rw [hml]; rfl) (Steps.refl _) (a := tk) (by rw [eh_9]; exact q_10) q_10' (argsL := [vr, (.ref n)]) (rest := []) (lenOf pd_6 rfl) rfl (by show 2 * 0 + _ ≤ _; exact Nat.le_of_eq rfl) (hb hby dsp1_24) (fun _ _ => ⟨rfl, eh_9, (by decide : 0 + 1 ≤ _), (by decide : 0 + 2 ≤ _)⟩)
      dsimp only [Pt.U, Pt.locs, Pt.cells, Pt.slots] at X_10 l_10 y_10 z_10 st_10 hQ_10
      subst l_10 y_10 z_10
      obtain ⟨ar, kar, w1, w2, M1, M2, rfl, N_10q, K_10, le_ar, V_ar, O_ar, C_1, C_2, eL, B1, B2⟩ := hQ_10
      have ne_a_ar : a ≠ ar := Nat.ne_of_lt (Nat.lt_of_lt_of_le E_a.lt le_ar)
      have fO := own_Tr_fresh C_l le_ar
      have fS := own_Tr_fresh C_r le_ar
      have le_n0_ar := Nat.le_trans Z0 le_ar
      have le_hh_ar := Nat.le_trans Z1 le_ar
      have Z0 := Nat.le_trans Z0 K_10.1
      have Z1 := Nat.le_trans Z1 K_10.1
      have E_tk := E_tk.keep K_10
      have E_a := E_a.keep K_10
      have F_places_a := F_places_a.keep K_10 dA2
      have F_low_a := F_low_a.keep K_10 dA2
      have F_high_a := F_high_a.keep K_10 dA2
      have F_firstRun_a := F_firstRun_a.keep K_10 dA2
      have F_kept_a := F_kept_a.keep K_10 dA2
      have F_keptLeft_a := F_keptLeft_a.keep K_10 dA2
      have F_keptRight_a := F_keptRight_a.keep K_10 dA2
      have C_l := own_Tr_keep K_10 _ _ _ C_l d12
      have K0 := K0.trans K_10 (fun x hx => Or.inl (own_in_r hx))
      subst eL
      obtain ⟨dM1, dM2⟩ := own_ninA dA2
      obtain ⟨fM1, fM2⟩ := own_ninA fS
      have hw1 := own_Tr_ref C_1
      have hw2 := own_Tr_ref C_2
      have N_10 := Fr.app N_9 N_10q
      refine hst (fun _ kt => st_10.trans kt) ?_
      show G (T_10.setTop (mkF mI 27 #[.val (.ref tk), .val (.ref a), .val (.ref n), .unset] [(.ref ar)]))
      refine o_astoreN hst X_10.here hx (hb hby dsp1_27) (pc' := 28) rfl (Lt := #[.val (.ref tk), .val (.ref a), .val (.ref n), .val (.ref ar)]) rfl rfl ?_
      refine o_aloadN hst X_10.here hx (hb hby dsp1_28) (pc' := 29) rfl rfl rfl ?_
      refine o_aloadN hst X_10.here hx (hb hby dsp1_29) (pc' := 30) rfl rfl rfl ?_
      refine o_aloadN hst X_10.here hx (hb hby dsp1_30) (pc' := 31) rfl rfl rfl ?_
      refine o_iconst hst X_10.here hx (hb hby dsp1_31) (pc' := 32) rfl (z := (0 : Int32)) rfl ?_
      obtain ⟨cl_11, Ar_11, -, S_11, M_11, Hs_11, -⟩ := id V_ar
      have hin_11 : ¬ ((0 : Int32) < 0 ∨ cl_11.slots.size ≤ ((0 : Int32)).toNatClampNeg) := inb_of S_11 ⟨by decide, by decide⟩
      have hat_11 : cl_11.slots[((0 : Int32)).toNatClampNeg]? = some w1 := Has.at Hs_11 hin_11 rfl
      refine hst (X_10.aaload hx (j := (0 : Int32)) (v := w1) Ar_11.1 (State.isArrayOf_alike hZ.alike Ar_11.2.1) rfl Ar_11.2.2 hin_11 hat_11 (g := (mkF mI 32 #[.val (.ref tk), .val (.ref a), .val (.ref n), .val (.ref ar)] [(.int (0 : Int32)), (.ref ar), (.ref a), (.ref tk)])) rfl rfl (hb hby dsp1_32)) ?_
      show G (T_10.setTop (mkF mI 33 #[.val (.ref tk), .val (.ref a), .val (.ref n), .val (.ref ar)] [w1, (.ref a), (.ref tk)]))
      obtain ⟨cq_12, kq_12, q_12a, q_12b, q_12c⟩ := isOf hZ rfl E_tk
      obtain ⟨_, _, ⟨T_12, L_12, k_12, n_12⟩, -, X_12, ⟨Lc_12, hQ_12, l_12, y_12, z_12⟩, st_12⟩ := X_10.virtualBack hx (y := (⟨own_TP, "setRight", "(Lcom/example/tierfold/tierfold/tiered/SharedTail;Lcom/example/tierfold/tierfold/tiered/SharedTail;)V"⟩ : MethodName)) (z := (⟨own_S1, "setRight", "(Lcom/example/tierfold/tierfold/tiered/SharedTail;Lcom/example/tierfold/tierfold/tiered/SharedTail;)V"⟩ : MethodName)) hown (mvT hZ (own_w153 hw)) (mvT hZ (own_w154 hw)) (own_nf (y1 := (⟨own_TP, "insert", "(Lcom/example/tierfold/tierfold/tiered/SharedTail;Lcom/example/tierfold/tierfold/tiered/SharedTail;)Lcom/example/tierfold/tierfold/tiered/SharedTail;"⟩ : MethodName)) (notFace_of_selects (args := #[]) (mvT hZ (own_w128 hw))) rfl (mvT (args := #[]) hZ (own_w127 hw))) (mvT hZ (own_w155 hw)) (mvT hZ (own_w156 hw)) (by decide) (backOf (W := 0) (rmsr lL Z a0 hw [] tk a w1 vl vr pa la ga T_10.heap n0 Z0 hw1 ⟨E_a, F_places_a, F_low_a, F_high_a, F_firstRun_a, _, F_kept_a⟩ ⟨F_keptLeft_a, F_keptRight_a⟩ le_n0_a) hZ (own_w157 hw) (own_w148 hw) (by decide) (by decide)) q_12a q_12c (g := (mkF mI 33 #[.val (.ref tk), .val (.ref a), .val (.ref n), .val (.ref ar)] [w1, (.ref a), (.ref tk)])) rfl (by rw [hml]; rfl) (Steps.refl _) (argsL := [(.ref a), w1]) (rest := []) (lenOf pd_7 rfl) rfl (by show 2 * 0 + _ ≤ _; exact Nat.le_of_eq rfl) (hb hby dsp1_33) (fun _ _ => ⟨rfl, rfl, (by decide : 1 + 0 ≤ _), (by decide : 2 + 0 ≤ _)⟩)
      dsimp only [Pt.U, Pt.locs, Pt.cells, Pt.slots] at X_12 l_12 y_12 z_12 st_12 hQ_12
      subst l_12 y_12 z_12
      obtain ⟨rfl, N_12q, K_12, ⟨Gx, G_places_a, G_low_a, G_high_a, G_firstRun_a, zk_a, G_kept_a⟩, ⟨GKl, GKr⟩⟩ := hQ_12
      have Z0 := Nat.le_trans Z0 K_12.1
      have Z1 := Nat.le_trans Z1 K_12.1
      have E_tk := E_tk.keep K_12
      have E_a := E_a.keep K_12
      have C_l := own_Tr_keep K_12 _ _ _ C_l (own_nw dA1)
      have K0 := K0.trans K_12 (allS (Or.inl own_in_m) all0)
      have C_1 := own_Tr_keep K_12 _ _ _ C_1 (own_nw dM1)
      have C_2 := own_Tr_keep K_12 _ _ _ C_2 (own_nw dM2)
      have V_ar := V_ar.keep K_12 (ninS (Ne.symm ne_a_ar) nin0)
      have F_places_a := G_places_a
      have F_low_a := G_low_a
      have F_high_a := G_high_a
      have F_firstRun_a := G_firstRun_a
      have F_kept_a := G_kept_a
      have F_keptLeft_a := GKl
      have F_keptRight_a := GKr
      have N_12 := Fr.app N_10 N_12q
      refine hst (fun _ kt => st_12.trans kt) ?_
      show G (T_12.setTop (mkF mI 36 #[.val (.ref tk), .val (.ref a), .val (.ref n), .val (.ref ar)] []))
      refine o_aloadN hst X_12.here hx (hb hby dsp1_36) (pc' := 37) rfl rfl rfl ?_
      refine o_aloadN hst X_12.here hx (hb hby dsp1_37) (pc' := 38) rfl rfl rfl ?_
      obtain ⟨cq_13, kq_13, q_13a, q_13b, q_13c⟩ := isOf hZ rfl E_tk
      obtain ⟨_, _, ⟨T_13, L_13, k_13, n_13⟩, -, X_13, ⟨Lc_13, hQ_13, l_13, y_13, z_13⟩, st_13⟩ := X_12.virtualBack hx (y := (⟨own_TP, "update", "(Lcom/example/tierfold/tierfold/tiered/SharedTail;)V"⟩ : MethodName)) (z := (⟨own_TP, "update", "(Lcom/example/tierfold/tierfold/tiered/SharedTail;)V"⟩ : MethodName)) hown (mvT hZ (own_w158 hw)) (mvT hZ (own_w159 hw)) (notFace_of_selects (args := #[]) (mvT hZ (own_w161 hw))) (mvT hZ (own_w161 hw)) (mvT hZ (own_w160 hw)) (by decide) (backOf (W := 0) (rmup lL Z a0 hw [] tk a  T_12.heap n0 Z0) hZ (own_w162 hw) (own_w129 hw) (by decide) (by decide)) q_13a q_13c (g := (mkF mI 38 #[.val (.ref tk), .val (.ref a), .val (.ref n), .val (.ref ar)] [(.ref a), (.ref tk)])) rfl (by rw [hml]; rfl) (Steps.refl _) (argsL := [(.ref a)]) (rest := []) (lenOf pd_8 rfl) rfl (by show 2 * 0 + _ ≤ _; exact Nat.le_of_eq rfl) (hb hby dsp1_38) (fun _ _ => ⟨rfl, rfl, (by decide : 1 + 0 ≤ _), (by decide : 2 + 0 ≤ _)⟩)
      dsimp only [Pt.U, Pt.locs, Pt.cells, Pt.slots] at X_13 l_13 y_13 z_13 st_13 hQ_13
      subst l_13 y_13 z_13
      obtain ⟨rfl, N_13q, eh_13⟩ := hQ_13
      have N_13 := Fr.app N_12 N_13q
      refine hst (fun _ kt => st_13.trans kt) ?_
      show G (T_13.setTop (mkF mI 41 #[.val (.ref tk), .val (.ref a), .val (.ref n), .val (.ref ar)] []))
      refine o_aloadN hst X_13.here hx (hb hby dsp1_41) (pc' := 42) rfl rfl rfl ?_
      refine o_iconst hst X_13.here hx (hb hby dsp1_42) (pc' := 43) rfl (z := (0 : Int32)) rfl ?_
      refine o_aloadN hst X_13.here hx (hb hby dsp1_43) (pc' := 44) rfl rfl rfl ?_
      obtain ⟨cl_14, Ar_14, q_14, S_14, M_14, Hs_14, Gs_14⟩ := V_ar
      have hin_14 : ¬ ((0 : Int32) < 0 ∨ cl_14.slots.size ≤ ((0 : Int32)).toNatClampNeg) := inb_of S_14 ⟨by decide, by decide⟩
      obtain ⟨T_14, h_14, X_14, e_14, W_14, st_14⟩ := stR X_13 hx hZ eh_13 Ar_14 (j := (0 : Int32)) (v := (.ref a)) hin_14 rfl (Sto.ofV Ar_14 q_14 O_ar (Ins.self E_a)) (g := (mkF mI 44 #[.val (.ref tk), .val (.ref a), .val (.ref n), .val (.ref ar)] [(.ref a), (.int (0 : Int32)), (.ref ar)])) rfl rfl (hb hby dsp1_44)
      have V_ar := Arv.set Ar_14 q_14 S_14 M_14 Hs_14 Gs_14 rfl W_14 0 rfl (Nat.le_of_ble_eq_true rfl)
      have V_ar : Arv Z h_14 ar kar (.object own_ST) (2 : Int32) [(.ref a), w2] .null := V_ar
      have Z0 := Nat.le_trans Z0 (Keep.of_wr W_14).1
      have Z1 := Nat.le_trans Z1 (Keep.of_wr W_14).1
      have E_tk := E_tk.wr W_14
      have E_a := E_a.wr W_14
      have C_l := own_Tr_keep (Keep.of_wr W_14) _ _ _ C_l (own_nw fO)
      have K0 := K0.wr W_14 (Or.inr le_hh_ar)
      have C_1 := own_Tr_keep (Keep.of_wr W_14) _ _ _ C_1 (own_nw fM1)
      have C_2 := own_Tr_keep (Keep.of_wr W_14) _ _ _ C_2 (own_nw fM2)
      have F_places_a := F_places_a.other W_14 (Or.inl ne_a_ar)
      have F_low_a := F_low_a.other W_14 (Or.inl ne_a_ar)
      have F_high_a := F_high_a.other W_14 (Or.inl ne_a_ar)
      have F_firstRun_a := F_firstRun_a.other W_14 (Or.inl ne_a_ar)
      have F_kept_a := F_kept_a.other W_14 (Or.inl ne_a_ar)
      have F_keptLeft_a := F_keptLeft_a.other W_14 (Or.inl ne_a_ar)
      have F_keptRight_a := F_keptRight_a.other W_14 (Or.inl ne_a_ar)
      have N_14 := Fr.snoc X_14 N_13 le_n0_ar
      refine hst st_14 ?_
      show G (T_14.setTop (mkF mI 45 #[.val (.ref tk), .val (.ref a), .val (.ref n), .val (.ref ar)] []))
      refine o_aloadN hst X_14.here hx (hb hby dsp1_45) (pc' := 46) rfl rfl rfl ?_
      exact hend (own_goRet X_14 hx Bd.returns rfl (Or.inr (Or.inr (Or.inr (Or.inr ⟨rfl, rfl, rfl⟩)))) (hb hby dsp1_46) Bd.notSynchronized (by rw [e_14]; exact ⟨ar, kar, (.ref a), w2, L1 ++ (a, pa, la, ga) :: M1, M2, rfl, N_14, K0, le_hh_ar, V_ar, O_ar, own_Tr_mk ⟨E_a, F_places_a, F_low_a, F_high_a, F_firstRun_a, _, F_kept_a⟩ ⟨F_keptLeft_a, F_keptRight_a⟩ C_l C_1, own_Tr_mono _ _ _ C_2, by simp, own_sp1 sA1 hB B1, B2⟩) (by decide) (by decide))
theorem dsp2_0 : decode prog_159_method_10_code 0 = .ok (.aload_n 1, 1) := by decide +kernel
theorem dsp2_1 : decode prog_159_method_10_code 1 = .ok (.ifnonnull 8, 3) := by decide +kernel
theorem dsp2_4 : decode prog_159_method_10_code 4 = .ok (.iconst 2, 1) := by decide +kernel
theorem dsp2_5 : decode prog_159_method_10_code 5 = .ok (.anewarray 50, 3) := by decide +kernel
theorem dsp2_8 : decode prog_159_method_10_code 8 = .ok (.areturn, 1) := by decide +kernel
theorem dsp2_9 : decode prog_159_method_10_code 9 = .ok (.aload_n 1, 1) := by decide +kernel
theorem dsp2_10 : decode prog_159_method_10_code 10 = .ok (.aload_n 2, 1) := by decide +kernel
theorem dsp2_11 : decode prog_159_method_10_code 11 = .ok (.invokestatic 28, 3) := by decide +kernel
theorem dsp2_14 : decode prog_159_method_10_code 14 = .ok (.ifCond .eq 33, 3) := by decide +kernel
theorem dsp2_17 : decode prog_159_method_10_code 17 = .ok (.aload_n 0, 1) := by decide +kernel
theorem dsp2_18 : decode prog_159_method_10_code 18 = .ok (.aload_n 0, 1) := by decide +kernel
theorem dsp2_19 : decode prog_159_method_10_code 19 = .ok (.aload_n 1, 1) := by decide +kernel
theorem dsp2_20 : decode prog_159_method_10_code 20 = .ok (.invokevirtual 40, 3) := by decide +kernel
theorem dsp2_23 : decode prog_159_method_10_code 23 = .ok (.aload_n 2, 1) := by decide +kernel
theorem dsp2_24 : decode prog_159_method_10_code 24 = .ok (.invokevirtual 13, 3) := by decide +kernel
theorem dsp2_27 : decode prog_159_method_10_code 27 = .ok (.astore_n 3, 1) := by decide +kernel
theorem dsp2_28 : decode prog_159_method_10_code 28 = .ok (.aload_n 0, 1) := by decide +kernel
theorem dsp2_29 : decode prog_159_method_10_code 29 = .ok (.aload_n 1, 1) := by decide +kernel
theorem dsp2_30 : decode prog_159_method_10_code 30 = .ok (.aload_n 3, 1) := by decide +kernel
theorem dsp2_31 : decode prog_159_method_10_code 31 = .ok (.iconst 0, 1) := by decide +kernel
theorem dsp2_32 : decode prog_159_method_10_code 32 = .ok (.aaload, 1) := by decide +kernel
theorem dsp2_33 : decode prog_159_method_10_code 33 = .ok (.invokevirtual 21, 3) := by decide +kernel
theorem dsp2_36 : decode prog_159_method_10_code 36 = .ok (.aload_n 0, 1) := by decide +kernel
theorem dsp2_37 : decode prog_159_method_10_code 37 = .ok (.aload_n 1, 1) := by decide +kernel
theorem dsp2_38 : decode prog_159_method_10_code 38 = .ok (.invokevirtual 24, 3) := by decide +kernel
theorem dsp2_41 : decode prog_159_method_10_code 41 = .ok (.aload_n 3, 1) := by decide +kernel
theorem dsp2_42 : decode prog_159_method_10_code 42 = .ok (.iconst 0, 1) := by decide +kernel
theorem dsp2_43 : decode prog_159_method_10_code 43 = .ok (.aload_n 1, 1) := by decide +kernel
theorem dsp2_44 : decode prog_159_method_10_code 44 = .ok (.aastore, 1) := by decide +kernel
theorem dsp2_45 : decode prog_159_method_10_code 45 = .ok (.aload_n 3, 1) := by decide +kernel
theorem dsp2_46 : decode prog_159_method_10_code 46 = .ok (.areturn, 1) := by decide +kernel
theorem dsp2_47 : decode prog_159_method_10_code 47 = .ok (.aload_n 0, 1) := by decide +kernel
theorem dsp2_48 : decode prog_159_method_10_code 48 = .ok (.aload_n 0, 1) := by decide +kernel
theorem dsp2_49 : decode prog_159_method_10_code 49 = .ok (.aload_n 1, 1) := by decide +kernel
theorem dsp2_50 : decode prog_159_method_10_code 50 = .ok (.invokevirtual 32, 3) := by decide +kernel
theorem dsp2_53 : decode prog_159_method_10_code 53 = .ok (.aload_n 2, 1) := by decide +kernel
theorem dsp2_54 : decode prog_159_method_10_code 54 = .ok (.invokevirtual 13, 3) := by decide +kernel
theorem dsp2_57 : decode prog_159_method_10_code 57 = .ok (.astore_n 3, 1) := by decide +kernel
theorem dsp2_58 : decode prog_159_method_10_code 58 = .ok (.aload_n 0, 1) := by decide +kernel
theorem dsp2_59 : decode prog_159_method_10_code 59 = .ok (.aload_n 1, 1) := by decide +kernel
theorem dsp2_60 : decode prog_159_method_10_code 60 = .ok (.aload_n 3, 1) := by decide +kernel
theorem dsp2_61 : decode prog_159_method_10_code 61 = .ok (.iconst 1, 1) := by decide +kernel
theorem dsp2_62 : decode prog_159_method_10_code 62 = .ok (.aaload, 1) := by decide +kernel
theorem dsp2_63 : decode prog_159_method_10_code 63 = .ok (.invokevirtual 17, 3) := by decide +kernel
theorem dsp2_66 : decode prog_159_method_10_code 66 = .ok (.aload_n 0, 1) := by decide +kernel
theorem dsp2_67 : decode prog_159_method_10_code 67 = .ok (.aload_n 1, 1) := by decide +kernel
theorem dsp2_68 : decode prog_159_method_10_code 68 = .ok (.invokevirtual 24, 3) := by decide +kernel
theorem dsp2_71 : decode prog_159_method_10_code 71 = .ok (.aload_n 3, 1) := by decide +kernel
theorem dsp2_72 : decode prog_159_method_10_code 72 = .ok (.iconst 1, 1) := by decide +kernel
theorem dsp2_73 : decode prog_159_method_10_code 73 = .ok (.aload_n 1, 1) := by decide +kernel
theorem dsp2_74 : decode prog_159_method_10_code 74 = .ok (.aastore, 1) := by decide +kernel
theorem dsp2_75 : decode prog_159_method_10_code 75 = .ok (.aload_n 3, 1) := by decide +kernel
theorem dsp2_76 : decode prog_159_method_10_code 76 = .ok (.areturn, 1) := by decide +kernel
theorem ef_sp2 (mI : MethodId) (tk : Addr) (v : Value) (n : Addr) (e_v : v.isRef = true) : entryFrame mI #[(.ref tk), v, (.ref n)] 4 = mkF mI 0 #[.val (.ref tk), .val v, .val (.ref n), .unset] [] := by rcases ref_cases e_v with rfl | ⟨_, rfl⟩ <;> first | (simp [entryFrame, mkF, argsToLocals, Value.category]; done) | rfl
theorem pn_sp2 : plainName own_TP = true := by first | decide +kernel | (simp [plainName, overriddenIn]; done)
set_option maxRecDepth 65536 in
set_option maxHeartbeats 40000000 in
theorem rmsp2 (lL : Launch) (Z : State) (a0 : Array Value) (hw : ∀ d ∈ tables_1, d.before a0 Z = true) (ws : List Jvm.Cond) (tk : Addr) (v : Value) (n : Addr) (Lq : List own_R) (pn : Int32) (ln : Int64) (h0 : Heap) (n0 : Nat) (Z0 : n0 ≤ h0.size) (hv : v.isRef = true) (E_tk : Exa Z h0 tk own_S1) (C_t : own_Tr Z h0 2 v Lq) (F_places_n : Fld Z h0 n own_ST "places" "I" (.int pn)) (F_low_n : Fld Z h0 n own_ST "low" "J" (.long ln)) (D_n : n ∉ own_as Lq) (D_L : (own_as Lq).Pairwise (· ≠ ·)) (S_L : Lq.Pairwise own_bf) (B_L : ∀ x ∈ own_as Lq, n0 ≤ x) :
    MetFree lL (⟨own_TP, "split", "(Lcom/example/tierfold/tierfold/tiered/SharedTail;Lcom/example/tierfold/tierfold/tiered/SharedTail;)[Lcom/example/tierfold/tierfold/tiered/SharedTail;"⟩ : MethodName) (head1 (Jvm.Cond.code (⟨own_TP, "split", "(Lcom/example/tierfold/tierfold/tiered/SharedTail;Lcom/example/tierfold/tierfold/tiered/SharedTail;)[Lcom/example/tierfold/tierfold/tiered/SharedTail;"⟩ : MethodName) prog_159_method_10_code 4 (some (.array (.object own_ST))) :: ws) ({ frames := 2, cells := 1, slots := 2, locals := 30 } : Room)) (fun a_ U_ => a_ = #[(.ref tk), v, (.ref n)] ∧ Z.Warmed39 U_.vm ∧ U_.heap = h0) (fun _ _ _ _ _ => True) (fun _ U_ o_ W_ => ∃ v_ L_, o_ = .returned v_ ∧ own_Qsp Z 2 pn ln Lq h0 n0 v_ W_.heap L_ ∧ FrameEnd U_ o_ W_ L_ ({ frames := 2, cells := 1, slots := 2, locals := 30 } : Room).cells ({ frames := 2, cells := 1, slots := 2, locals := 30 } : Room).slots) := by
  refine MetFree.of_bodySF (plainFor_of_name pn_sp2) hisR ?_
  intro pP eE sS mI args below meth cC s₁ Bd hml0 hP hK
  obtain ⟨rfl, hZ, hh⟩ := hP
  have hx := Bd.exec
  have hby := Bd.bytes
  have hml : cC.maxLocals = 4 := hml0
  have hown : sS.vm.findClass own_TP = some mI.cls := by have z := findClass_of_methodNamed Bd.named; exact z
  have hnm := (name_of_methodNamed Bd.named Bd.method).1
  have X0 : Stand pP lL eE ({ frames := 2, cells := 1, slots := 2, locals := 30 } : Room) sS mI #[(.ref tk), v, (.ref n)] below meth cC s₁ [] 0 0 := Stand.of_body Bd
  have e0 : s₁.heap = h0 := by rw [← hh, Bd.state]; rfl
  have N0 := Fr.nil n0
  obtain ⟨G, hG, hst, hend⟩ := own_abs pP eE below sS (own_Qsp Z 2 pn ln Lq h0 n0) ({ frames := 2, cells := 1, slots := 2, locals := 30 } : Room).cells ({ frames := 2, cells := 1, slots := 2, locals := 30 } : Room).slots
  refine hG (S := s₁.setTop (entryFrame mI #[(.ref tk), v, (.ref n)] 4)) (hst (fun t_ kt_ => castTop (ef_sp2 mI tk v n hv) kt_) ?_)
  have Z1 := Nat.le_refl h0.size
  rcases own_Tr_S C_t with ⟨rfl, rfl⟩ | ⟨a, pa, la, ga, vl, vr, L1, L2, rfl, rfl, ⟨E_a, F_places_a, F_low_a, F_high_a, F_firstRun_a, zk_a, F_kept_a⟩, ⟨F_keptLeft_a, F_keptRight_a⟩, C_l, C_r⟩
  ·
    have K0 := Keep.refl h0 (own_as [])
    show G (s₁.setTop (mkF mI 0 #[.val (.ref tk), .val .null, .val (.ref n), .unset] []))
    refine o_aloadN hst X0.here hx (hb hby dsp2_0) (pc' := 1) rfl rfl rfl ?_
    refine hst (fun _ kt => XS.ifnonnullNo X0.here hx rfl (hb hby dsp2_1) rfl kt) ?_
    show G (s₁.setTop (mkF mI 4 #[.val (.ref tk), .val .null, .val (.ref n), .unset] []))
    refine o_iconst hst X0.here hx (hb hby dsp2_4) (pc' := 5) rfl (z := (2 : Int32)) rfl ?_
    obtain ⟨T_1, h_1, k_ar, X_1, e_1, E_1, A_1, O_ar, st_1⟩ := newR X0 hx hZ hown (own_w167 hw) (own_w168 hw) e0 (g := (mkF mI 5 #[.val (.ref tk), .val .null, .val (.ref n), .unset] [(.int (2 : Int32))])) rfl (hb hby dsp2_5) rfl (by decide) (cap := 2) (by decide) (by decide) (by decide) (by decide)
    obtain ⟨ar, g_ar⟩ : ∃ z, z = h0.size := ⟨_, rfl⟩
    rw [← g_ar] at A_1 st_1
    have le_n0_ar : n0 ≤ ar := Nat.le_trans Z0 (Nat.le_of_eq g_ar.symm)
    have le_hh_ar : h0.size ≤ ar := Nat.le_trans Z1 (Nat.le_of_eq g_ar.symm)
    have Z0 := Nat.le_trans Z0 E_1.1
    have Z1 := Nat.le_trans Z1 E_1.1
    have K0 := K0.ext E_1
    have V_ar : Arv Z h_1 ar k_ar (.object own_ST) (2 : Int32) [.null, .null] .null := (Arv.new A_1 (by decide)).pad (pad_rep [] .null 2)
    refine hst st_1 ?_
    show G (T_1.setTop (mkF mI 8 #[.val (.ref tk), .val .null, .val (.ref n), .unset] [(.ref ar)]))
    exact hend (own_goRet X_1 hx Bd.returns rfl (Or.inr (Or.inr (Or.inr (Or.inr ⟨rfl, rfl, rfl⟩)))) (hb hby dsp2_8) Bd.notSynchronized (by rw [e_1]; exact ⟨ar, k_ar, .null, .null, [], [], rfl, N0, K0, le_hh_ar, V_ar, O_ar, own_Tr_null, own_Tr_null, rfl, (fun _ q => nomatch q), (fun _ q => nomatch q)⟩) (by decide) (by decide))
  ·
    obtain ⟨dA1, dA2, d12, DL1, DL2⟩ := own_D D_L
    obtain ⟨sA1, sA2, SL1, SL2⟩ := own_S S_L
    have dN := own_nin D_n
    have le_n0_a := B_L a own_in_m
    have hvl := own_Tr_ref C_l
    have hvr := own_Tr_ref C_r
    have K0 := Keep.refl h0 (own_as (L1 ++ (a, pa, la, ga) :: L2))
    show G (s₁.setTop (mkF mI 0 #[.val (.ref tk), .val (.ref a), .val (.ref n), .unset] []))
    refine o_aloadN hst X0.here hx (hb hby dsp2_0) (pc' := 1) rfl rfl rfl ?_
    refine hst (fun _ kt => XS.ifnonnullYes X0.here hx rfl (pc0 := 1) (pc' := 9) rfl (hb hby dsp2_1) rfl (by decide) (by decide) kt) ?_
    show G (s₁.setTop (mkF mI 9 #[.val (.ref tk), .val (.ref a), .val (.ref n), .unset] []))
    refine o_aloadN hst X0.here hx (hb hby dsp2_9) (pc' := 10) rfl rfl rfl ?_
    refine o_aloadN hst X0.here hx (hb hby dsp2_10) (pc' := 11) rfl rfl rfl ?_
    obtain ⟨_, _, ⟨T_2, L_2, k_2, n_2⟩, -, X_2, ⟨Lc_2, hQ_2, l_2, y_2, z_2⟩, st_2⟩ := Jvm.LawKit.callS X0 hx (y := (⟨own_TP, "before", "(Lcom/example/tierfold/tierfold/tiered/SharedTail;Lcom/example/tierfold/tierfold/tiered/SharedTail;)Z"⟩ : MethodName)) hown (mvT hZ (own_w141 hw)) (mvT hZ (own_w142 hw)) (mvT hZ (own_w129 hw)) (mvT hZ (own_w143 hw)) (by decide) (backOf (W := 0) (rmbf lL Z a0 hw [] a n pa la pn ln h0 n0 Z0 F_places_a F_low_a F_places_n F_low_n) hZ (own_w143 hw) (own_w129 hw) (by decide) (by decide)) (g := (mkF mI 11 #[.val (.ref tk), .val (.ref a), .val (.ref n), .unset] [(.ref n), (.ref a)])) rfl (by rw [hml]; rfl) (argsL := [(.ref a), (.ref n)]) (rest := []) (lenOf pd_4 rfl) rfl (by show 2 * 0 + _ ≤ _; exact Nat.le_of_eq rfl) (hb hby dsp2_11) (fun _ _ => ⟨rfl, e0, (by decide : 0 + 0 ≤ _), (by decide : 0 + 0 ≤ _)⟩)
    dsimp only [Pt.U, Pt.locs, Pt.cells, Pt.slots] at X_2 l_2 y_2 z_2 st_2 hQ_2
    subst l_2 y_2 z_2
    obtain ⟨rfl, N_2q, eh_2⟩ := hQ_2
    have N_2 := Fr.app N0 N_2q
    refine hst (fun _ kt => st_2 _ kt) ?_
    show G (T_2.setTop (mkF mI 14 #[.val (.ref tk), .val (.ref a), .val (.ref n), .unset] [(.int (own_bI pa la pn ln))]))
    by_cases hI : (own_bI pa la pn ln) = (0 : Int32)
    ·
      refine hst (fun _ kt => XS.ifYes X_2.here hx rfl (pc0 := 14) (pc' := 47) rfl (hb hby dsp2_14) rfl ((if0 _ _).trans (teq hI).1) (by decide) (by decide) kt) ?_
      show G (T_2.setTop (mkF mI 47 #[.val (.ref tk), .val (.ref a), .val (.ref n), .unset] []))
      have hB := own_bI_eq hI
      refine o_aloadN hst X_2.here hx (hb hby dsp2_47) (pc' := 48) rfl rfl rfl ?_
      refine o_aloadN hst X_2.here hx (hb hby dsp2_48) (pc' := 49) rfl rfl rfl ?_
      refine o_aloadN hst X_2.here hx (hb hby dsp2_49) (pc' := 50) rfl rfl rfl ?_
      obtain ⟨cq_3, kq_3, q_3a, q_3b, q_3c⟩ := isOf hZ eh_2 E_tk
      obtain ⟨_, _, ⟨T_3, L_3, k_3, n_3⟩, -, X_3, ⟨Lc_3, hQ_3, l_3, y_3, z_3⟩, st_3⟩ := X_2.virtualBack hx (y := (⟨own_TP, "left", "(Lcom/example/tierfold/tierfold/tiered/SharedTail;)Lcom/example/tierfold/tierfold/tiered/SharedTail;"⟩ : MethodName)) (z := (⟨own_S1, "left", "(Lcom/example/tierfold/tierfold/tiered/SharedTail;)Lcom/example/tierfold/tierfold/tiered/SharedTail;"⟩ : MethodName)) hown (mvT hZ (own_w187 hw)) (mvT hZ (own_w188 hw)) (own_nf (y1 := (⟨own_TP, "insert", "(Lcom/example/tierfold/tierfold/tiered/SharedTail;Lcom/example/tierfold/tierfold/tiered/SharedTail;)Lcom/example/tierfold/tierfold/tiered/SharedTail;"⟩ : MethodName)) (notFace_of_selects (args := #[]) (mvT hZ (own_w128 hw))) rfl (mvT (args := #[]) hZ (own_w127 hw))) (mvT hZ (own_w189 hw)) (mvT hZ (own_w190 hw)) (by decide) (backOf (W := 1) (rmle lL Z a0 hw [] tk a vl h0 n0 Z0 hvl F_keptLeft_a) hZ (own_w191 hw) (own_w148 hw) (by decide) (by decide)) q_3a q_3c (g := (mkF mI 50 #[.val (.ref tk), .val (.ref a), .val (.ref n), .unset] [(.ref a), (.ref tk), (.ref tk)])) rfl (by rw [hml]; rfl) (Steps.refl _) (argsL := [(.ref a)]) (rest := [(.ref tk)]) (lenOf pd_5 rfl) rfl (by show 2 * 0 + _ ≤ _; exact Nat.le_of_eq rfl) (hb hby dsp2_50) (fun _ _ => ⟨rfl, eh_2, (by decide : 0 + 0 ≤ _), (by decide : 0 + 0 ≤ _)⟩)
      dsimp only [Pt.U, Pt.locs, Pt.cells, Pt.slots] at X_3 l_3 y_3 z_3 st_3 hQ_3
      subst l_3 y_3 z_3
      obtain ⟨rfl, N_3q, eh_3⟩ := hQ_3
      have N_3 := Fr.app N_2 N_3q
      refine hst (fun _ kt => st_3.trans kt) ?_
      show G (T_3.setTop (mkF mI 53 #[.val (.ref tk), .val (.ref a), .val (.ref n), .unset] [vl, (.ref tk)]))
      refine o_aloadN hst X_3.here hx (hb hby dsp2_53) (pc' := 54) rfl rfl rfl ?_
      obtain ⟨cq_4, q_4, q_4'⟩ := E_tk.cell
      obtain ⟨_, _, ⟨T_4, L_4, k_4, n_4⟩, -, X_4, ⟨Lc_4, hQ_4, l_4, y_4, z_4⟩, st_4⟩ := X_3.privateBack hx (y := (⟨own_TP, "split", "(Lcom/example/tierfold/tierfold/tiered/SharedTail;Lcom/example/tierfold/tierfold/tiered/SharedTail;)[Lcom/example/tierfold/tierfold/tiered/SharedTail;"⟩ : MethodName)) hown (mvT hZ (own_w163 hw)) (mvT hZ (own_w164 hw)) (own_selp (own_nf (y1 := (⟨own_TP, "insert", "(Lcom/example/tierfold/tierfold/tiered/SharedTail;Lcom/example/tierfold/tierfold/tiered/SharedTail;)Lcom/example/tierfold/tierfold/tiered/SharedTail;"⟩ : MethodName)) (notFace_of_selects (args := #[]) (mvT hZ (own_w128 hw))) rfl (mvT (args := #[]) hZ (own_w127 hw))) (Cond.privateMethod_at (mvP hZ (own_w165 hw) (args := #[]))) (mvT hZ (own_w164 hw)) (by decide)) (Cond.privateMethod_at (mvP hZ (own_w165 hw) (args := #[]))) (mvT hZ (own_w166 hw)) (by decide) (backOf (W := 0) (rmsp1 lL Z a0 hw [] tk vl n L1 pn ln h0 n0 Z0 hvl E_tk C_l F_places_n F_low_n dN.1 DL1 SL1 (fun x hx => B_L x (own_in_l hx))) hZ (own_w166 hw) (own_w129 hw) (by decide) (by decide)) (g := (mkF mI 54 #[.val (.ref tk), .val (.ref a), .val (.ref n), .unset] [(.ref n), vl, (.ref tk)])) rfl (by rw [hml]; rfl) (Steps.refl _) (a := tk) (by rw [eh_3]; exact q_4) q_4' (argsL := [vl, (.ref n)]) (rest := []) (lenOf pd_6 rfl) rfl (by show 2 * 0 + _ ≤ _; exact Nat.le_of_eq rfl) (hb hby dsp2_54) (fun _ _ => ⟨rfl, eh_3, (by decide : 0 + 1 ≤ _), (by decide : 0 + 2 ≤ _)⟩)
      dsimp only [Pt.U, Pt.locs, Pt.cells, Pt.slots] at X_4 l_4 y_4 z_4 st_4 hQ_4
      subst l_4 y_4 z_4
      obtain ⟨ar, kar, w1, w2, M1, M2, rfl, N_4q, K_4, le_ar, V_ar, O_ar, C_1, C_2, eL, B1, B2⟩ := hQ_4
      have ne_a_ar : a ≠ ar := Nat.ne_of_lt (Nat.lt_of_lt_of_le E_a.lt le_ar)
      have fO := own_Tr_fresh C_r le_ar
      have fS := own_Tr_fresh C_l le_ar
      have le_n0_ar := Nat.le_trans Z0 le_ar
      have le_hh_ar := Nat.le_trans Z1 le_ar
      have Z0 := Nat.le_trans Z0 K_4.1
      have Z1 := Nat.le_trans Z1 K_4.1
      have E_tk := E_tk.keep K_4
      have E_a := E_a.keep K_4
      have F_places_a := F_places_a.keep K_4 dA1
      have F_low_a := F_low_a.keep K_4 dA1
      have F_high_a := F_high_a.keep K_4 dA1
      have F_firstRun_a := F_firstRun_a.keep K_4 dA1
      have F_kept_a := F_kept_a.keep K_4 dA1
      have F_keptLeft_a := F_keptLeft_a.keep K_4 dA1
      have F_keptRight_a := F_keptRight_a.keep K_4 dA1
      have C_r := own_Tr_keep K_4 _ _ _ C_r (fun x hx hy => d12 x hy hx)
      have K0 := K0.trans K_4 (fun x hx => Or.inl (own_in_l hx))
      subst eL
      obtain ⟨dM1, dM2⟩ := own_ninA dA1
      obtain ⟨fM1, fM2⟩ := own_ninA fS
      have hw1 := own_Tr_ref C_1
      have hw2 := own_Tr_ref C_2
      have N_4 := Fr.app N_3 N_4q
      refine hst (fun _ kt => st_4.trans kt) ?_
      show G (T_4.setTop (mkF mI 57 #[.val (.ref tk), .val (.ref a), .val (.ref n), .unset] [(.ref ar)]))
      refine o_astoreN hst X_4.here hx (hb hby dsp2_57) (pc' := 58) rfl (Lt := #[.val (.ref tk), .val (.ref a), .val (.ref n), .val (.ref ar)]) rfl rfl ?_
      refine o_aloadN hst X_4.here hx (hb hby dsp2_58) (pc' := 59) rfl rfl rfl ?_
      refine o_aloadN hst X_4.here hx (hb hby dsp2_59) (pc' := 60) rfl rfl rfl ?_
      refine o_aloadN hst X_4.here hx (hb hby dsp2_60) (pc' := 61) rfl rfl rfl ?_
      refine o_iconst hst X_4.here hx (hb hby dsp2_61) (pc' := 62) rfl (z := (1 : Int32)) rfl ?_
      obtain ⟨cl_5, Ar_5, -, S_5, M_5, Hs_5, -⟩ := id V_ar
      have hin_5 : ¬ ((1 : Int32) < 0 ∨ cl_5.slots.size ≤ ((1 : Int32)).toNatClampNeg) := inb_of S_5 ⟨by decide, by decide⟩
      have hat_5 : cl_5.slots[((1 : Int32)).toNatClampNeg]? = some w2 := Has.at Hs_5 hin_5 rfl
      refine hst (X_4.aaload hx (j := (1 : Int32)) (v := w2) Ar_5.1 (State.isArrayOf_alike hZ.alike Ar_5.2.1) rfl Ar_5.2.2 hin_5 hat_5 (g := (mkF mI 62 #[.val (.ref tk), .val (.ref a), .val (.ref n), .val (.ref ar)] [(.int (1 : Int32)), (.ref ar), (.ref a), (.ref tk)])) rfl rfl (hb hby dsp2_62)) ?_
      show G (T_4.setTop (mkF mI 63 #[.val (.ref tk), .val (.ref a), .val (.ref n), .val (.ref ar)] [w2, (.ref a), (.ref tk)]))
      obtain ⟨cq_6, kq_6, q_6a, q_6b, q_6c⟩ := isOf hZ rfl E_tk
      obtain ⟨_, _, ⟨T_6, L_6, k_6, n_6⟩, -, X_6, ⟨Lc_6, hQ_6, l_6, y_6, z_6⟩, st_6⟩ := X_4.virtualBack hx (y := (⟨own_TP, "setLeft", "(Lcom/example/tierfold/tierfold/tiered/SharedTail;Lcom/example/tierfold/tierfold/tiered/SharedTail;)V"⟩ : MethodName)) (z := (⟨own_S1, "setLeft", "(Lcom/example/tierfold/tierfold/tiered/SharedTail;Lcom/example/tierfold/tierfold/tiered/SharedTail;)V"⟩ : MethodName)) hown (mvT hZ (own_w170 hw)) (mvT hZ (own_w171 hw)) (own_nf (y1 := (⟨own_TP, "insert", "(Lcom/example/tierfold/tierfold/tiered/SharedTail;Lcom/example/tierfold/tierfold/tiered/SharedTail;)Lcom/example/tierfold/tierfold/tiered/SharedTail;"⟩ : MethodName)) (notFace_of_selects (args := #[]) (mvT hZ (own_w128 hw))) rfl (mvT (args := #[]) hZ (own_w127 hw))) (mvT hZ (own_w172 hw)) (mvT hZ (own_w173 hw)) (by decide) (backOf (W := 0) (rmsl lL Z a0 hw [] tk a w2 vl vr pa la ga T_4.heap n0 Z0 hw2 ⟨E_a, F_places_a, F_low_a, F_high_a, F_firstRun_a, _, F_kept_a⟩ ⟨F_keptLeft_a, F_keptRight_a⟩ le_n0_a) hZ (own_w174 hw) (own_w148 hw) (by decide) (by decide)) q_6a q_6c (g := (mkF mI 63 #[.val (.ref tk), .val (.ref a), .val (.ref n), .val (.ref ar)] [w2, (.ref a), (.ref tk)])) rfl (by rw [hml]; rfl) (Steps.refl _) (argsL := [(.ref a), w2]) (rest := []) (lenOf pd_7 rfl) rfl (by show 2 * 0 + _ ≤ _; exact Nat.le_of_eq rfl) (hb hby dsp2_63) (fun _ _ => ⟨rfl, rfl, (by decide : 1 + 0 ≤ _), (by decide : 2 + 0 ≤ _)⟩)
      dsimp only [Pt.U, Pt.locs, Pt.cells, Pt.slots] at X_6 l_6 y_6 z_6 st_6 hQ_6
      subst l_6 y_6 z_6
      obtain ⟨rfl, N_6q, K_6, ⟨Gx, G_places_a, G_low_a, G_high_a, G_firstRun_a, zk_a, G_kept_a⟩, ⟨GKl, GKr⟩⟩ := hQ_6
      have Z0 := Nat.le_trans Z0 K_6.1
      have Z1 := Nat.le_trans Z1 K_6.1
      have E_tk := E_tk.keep K_6
      have E_a := E_a.keep K_6
      have C_r := own_Tr_keep K_6 _ _ _ C_r (own_nw dA2)
      have K0 := K0.trans K_6 (allS (Or.inl own_in_m) all0)
      have C_1 := own_Tr_keep K_6 _ _ _ C_1 (own_nw dM1)
      have C_2 := own_Tr_keep K_6 _ _ _ C_2 (own_nw dM2)
      have V_ar := V_ar.keep K_6 (ninS (Ne.symm ne_a_ar) nin0)
      have F_places_a := G_places_a
      have F_low_a := G_low_a
      have F_high_a := G_high_a
      have F_firstRun_a := G_firstRun_a
      have F_kept_a := G_kept_a
      have F_keptLeft_a := GKl
      have F_keptRight_a := GKr
      have N_6 := Fr.app N_4 N_6q
      refine hst (fun _ kt => st_6.trans kt) ?_
      show G (T_6.setTop (mkF mI 66 #[.val (.ref tk), .val (.ref a), .val (.ref n), .val (.ref ar)] []))
      refine o_aloadN hst X_6.here hx (hb hby dsp2_66) (pc' := 67) rfl rfl rfl ?_
      refine o_aloadN hst X_6.here hx (hb hby dsp2_67) (pc' := 68) rfl rfl rfl ?_
      obtain ⟨cq_7, kq_7, q_7a, q_7b, q_7c⟩ := isOf hZ rfl E_tk
      obtain ⟨_, _, ⟨T_7, L_7, k_7, n_7⟩, -, X_7, ⟨Lc_7, hQ_7, l_7, y_7, z_7⟩, st_7⟩ := X_6.virtualBack hx (y := (⟨own_TP, "update", "(Lcom/example/tierfold/tierfold/tiered/SharedTail;)V"⟩ : MethodName)) (z := (⟨own_TP, "update", "(Lcom/example/tierfold/tierfold/tiered/SharedTail;)V"⟩ : MethodName)) hown (mvT hZ (own_w158 hw)) (mvT hZ (own_w159 hw)) (notFace_of_selects (args := #[]) (mvT hZ (own_w161 hw))) (mvT hZ (own_w161 hw)) (mvT hZ (own_w160 hw)) (by decide) (backOf (W := 0) (rmup lL Z a0 hw [] tk a  T_6.heap n0 Z0) hZ (own_w162 hw) (own_w129 hw) (by decide) (by decide)) q_7a q_7c (g := (mkF mI 68 #[.val (.ref tk), .val (.ref a), .val (.ref n), .val (.ref ar)] [(.ref a), (.ref tk)])) rfl (by rw [hml]; rfl) (Steps.refl _) (argsL := [(.ref a)]) (rest := []) (lenOf pd_8 rfl) rfl (by show 2 * 0 + _ ≤ _; exact Nat.le_of_eq rfl) (hb hby dsp2_68) (fun _ _ => ⟨rfl, rfl, (by decide : 1 + 0 ≤ _), (by decide : 2 + 0 ≤ _)⟩)
      dsimp only [Pt.U, Pt.locs, Pt.cells, Pt.slots] at X_7 l_7 y_7 z_7 st_7 hQ_7
      subst l_7 y_7 z_7
      obtain ⟨rfl, N_7q, eh_7⟩ := hQ_7
      have N_7 := Fr.app N_6 N_7q
      refine hst (fun _ kt => st_7.trans kt) ?_
      show G (T_7.setTop (mkF mI 71 #[.val (.ref tk), .val (.ref a), .val (.ref n), .val (.ref ar)] []))
      refine o_aloadN hst X_7.here hx (hb hby dsp2_71) (pc' := 72) rfl rfl rfl ?_
      refine o_iconst hst X_7.here hx (hb hby dsp2_72) (pc' := 73) rfl (z := (1 : Int32)) rfl ?_
      refine o_aloadN hst X_7.here hx (hb hby dsp2_73) (pc' := 74) rfl rfl rfl ?_
      obtain ⟨cl_8, Ar_8, q_8, S_8, M_8, Hs_8, Gs_8⟩ := V_ar
      have hin_8 : ¬ ((1 : Int32) < 0 ∨ cl_8.slots.size ≤ ((1 : Int32)).toNatClampNeg) := inb_of S_8 ⟨by decide, by decide⟩
      obtain ⟨T_8, h_8, X_8, e_8, W_8, st_8⟩ := stR X_7 hx hZ eh_7 Ar_8 (j := (1 : Int32)) (v := (.ref a)) hin_8 rfl (Sto.ofV Ar_8 q_8 O_ar (Ins.self E_a)) (g := (mkF mI 74 #[.val (.ref tk), .val (.ref a), .val (.ref n), .val (.ref ar)] [(.ref a), (.int (1 : Int32)), (.ref ar)])) rfl rfl (hb hby dsp2_74)
      have V_ar := Arv.set Ar_8 q_8 S_8 M_8 Hs_8 Gs_8 rfl W_8 1 rfl (Nat.le_of_ble_eq_true rfl)
      have V_ar : Arv Z h_8 ar kar (.object own_ST) (2 : Int32) [w1, (.ref a)] .null := V_ar
      have Z0 := Nat.le_trans Z0 (Keep.of_wr W_8).1
      have Z1 := Nat.le_trans Z1 (Keep.of_wr W_8).1
      have E_tk := E_tk.wr W_8
      have E_a := E_a.wr W_8
      have C_r := own_Tr_keep (Keep.of_wr W_8) _ _ _ C_r (own_nw fO)
      have K0 := K0.wr W_8 (Or.inr le_hh_ar)
      have C_1 := own_Tr_keep (Keep.of_wr W_8) _ _ _ C_1 (own_nw fM1)
      have C_2 := own_Tr_keep (Keep.of_wr W_8) _ _ _ C_2 (own_nw fM2)
      have F_places_a := F_places_a.other W_8 (Or.inl ne_a_ar)
      have F_low_a := F_low_a.other W_8 (Or.inl ne_a_ar)
      have F_high_a := F_high_a.other W_8 (Or.inl ne_a_ar)
      have F_firstRun_a := F_firstRun_a.other W_8 (Or.inl ne_a_ar)
      have F_kept_a := F_kept_a.other W_8 (Or.inl ne_a_ar)
      have F_keptLeft_a := F_keptLeft_a.other W_8 (Or.inl ne_a_ar)
      have F_keptRight_a := F_keptRight_a.other W_8 (Or.inl ne_a_ar)
      have N_8 := Fr.snoc X_8 N_7 le_n0_ar
      refine hst st_8 ?_
      show G (T_8.setTop (mkF mI 75 #[.val (.ref tk), .val (.ref a), .val (.ref n), .val (.ref ar)] []))
      refine o_aloadN hst X_8.here hx (hb hby dsp2_75) (pc' := 76) rfl rfl rfl ?_
      exact hend (own_goRet X_8 hx Bd.returns rfl (Or.inr (Or.inr (Or.inr (Or.inr ⟨rfl, rfl, rfl⟩)))) (hb hby dsp2_76) Bd.notSynchronized (by rw [e_8]; exact ⟨ar, kar, w1, (.ref a), M1, M2 ++ (a, pa, la, ga) :: L2, rfl, N_8, K0, le_hh_ar, V_ar, O_ar, own_Tr_mono _ _ _ C_1, own_Tr_mk ⟨E_a, F_places_a, F_low_a, F_high_a, F_firstRun_a, _, F_kept_a⟩ ⟨F_keptLeft_a, F_keptRight_a⟩ C_2 C_r, by simp, B1, own_sp2 sA2 hB B2⟩) (by decide) (by decide))
    ·
      refine hst (fun _ kt => XS.ifNo X_2.here hx rfl (hb hby dsp2_14) rfl ((if0 _ _).trans (feq hI).1) kt) ?_
      show G (T_2.setTop (mkF mI 17 #[.val (.ref tk), .val (.ref a), .val (.ref n), .unset] []))
      have hB := own_bI_ne hI
      refine o_aloadN hst X_2.here hx (hb hby dsp2_17) (pc' := 18) rfl rfl rfl ?_
      refine o_aloadN hst X_2.here hx (hb hby dsp2_18) (pc' := 19) rfl rfl rfl ?_
      refine o_aloadN hst X_2.here hx (hb hby dsp2_19) (pc' := 20) rfl rfl rfl ?_
      obtain ⟨cq_9, kq_9, q_9a, q_9b, q_9c⟩ := isOf hZ eh_2 E_tk
      obtain ⟨_, _, ⟨T_9, L_9, k_9, n_9⟩, -, X_9, ⟨Lc_9, hQ_9, l_9, y_9, z_9⟩, st_9⟩ := X_2.virtualBack hx (y := (⟨own_TP, "right", "(Lcom/example/tierfold/tierfold/tiered/SharedTail;)Lcom/example/tierfold/tierfold/tiered/SharedTail;"⟩ : MethodName)) (z := (⟨own_S1, "right", "(Lcom/example/tierfold/tierfold/tiered/SharedTail;)Lcom/example/tierfold/tierfold/tiered/SharedTail;"⟩ : MethodName)) hown (mvT hZ (own_w144 hw)) (mvT hZ (own_w145 hw)) (own_nf (y1 := (⟨own_TP, "insert", "(Lcom/example/tierfold/tierfold/tiered/SharedTail;Lcom/example/tierfold/tierfold/tiered/SharedTail;)Lcom/example/tierfold/tierfold/tiered/SharedTail;"⟩ : MethodName)) (notFace_of_selects (args := #[]) (mvT hZ (own_w128 hw))) rfl (mvT (args := #[]) hZ (own_w127 hw))) (mvT hZ (own_w146 hw)) (mvT hZ (own_w147 hw)) (by decide) (backOf (W := 1) (rmri lL Z a0 hw [] tk a vr h0 n0 Z0 hvr F_keptRight_a) hZ (own_w149 hw) (own_w148 hw) (by decide) (by decide)) q_9a q_9c (g := (mkF mI 20 #[.val (.ref tk), .val (.ref a), .val (.ref n), .unset] [(.ref a), (.ref tk), (.ref tk)])) rfl (by rw [hml]; rfl) (Steps.refl _) (argsL := [(.ref a)]) (rest := [(.ref tk)]) (lenOf pd_5 rfl) rfl (by show 2 * 0 + _ ≤ _; exact Nat.le_of_eq rfl) (hb hby dsp2_20) (fun _ _ => ⟨rfl, eh_2, (by decide : 0 + 0 ≤ _), (by decide : 0 + 0 ≤ _)⟩)
      dsimp only [Pt.U, Pt.locs, Pt.cells, Pt.slots] at X_9 l_9 y_9 z_9 st_9 hQ_9
      subst l_9 y_9 z_9
      obtain ⟨rfl, N_9q, eh_9⟩ := hQ_9
      have N_9 := Fr.app N_2 N_9q
      refine hst (fun _ kt => st_9.trans kt) ?_
      show G (T_9.setTop (mkF mI 23 #[.val (.ref tk), .val (.ref a), .val (.ref n), .unset] [vr, (.ref tk)]))
      refine o_aloadN hst X_9.here hx (hb hby dsp2_23) (pc' := 24) rfl rfl rfl ?_
      obtain ⟨cq_10, q_10, q_10'⟩ := E_tk.cell
      obtain ⟨_, _, ⟨T_10, L_10, k_10, n_10⟩, -, X_10, ⟨Lc_10, hQ_10, l_10, y_10, z_10⟩, st_10⟩ := X_9.privateBack hx (y := (⟨own_TP, "split", "(Lcom/example/tierfold/tierfold/tiered/SharedTail;Lcom/example/tierfold/tierfold/tiered/SharedTail;)[Lcom/example/tierfold/tierfold/tiered/SharedTail;"⟩ : MethodName)) hown (mvT hZ (own_w163 hw)) (mvT hZ (own_w164 hw)) (own_selp (own_nf (y1 := (⟨own_TP, "insert", "(Lcom/example/tierfold/tierfold/tiered/SharedTail;Lcom/example/tierfold/tierfold/tiered/SharedTail;)Lcom/example/tierfold/tierfold/tiered/SharedTail;"⟩ : MethodName)) (notFace_of_selects (args := #[]) (mvT hZ (own_w128 hw))) rfl (mvT (args := #[]) hZ (own_w127 hw))) (Cond.privateMethod_at (mvP hZ (own_w165 hw) (args := #[]))) (mvT hZ (own_w164 hw)) (by decide)) (Cond.privateMethod_at (mvP hZ (own_w165 hw) (args := #[]))) (mvT hZ (own_w166 hw)) (by decide) (backOf (W := 0) (rmsp1 lL Z a0 hw [] tk vr n L2 pn ln h0 n0 Z0 hvr E_tk C_r F_places_n F_low_n dN.2.2 DL2 SL2 (fun x hx => B_L x (own_in_r hx))) hZ (own_w166 hw) (own_w129 hw) (by decide) (by decide)) (g := (mkF mI 24 #[.val (.ref tk), .val (.ref a), .val (.ref n), .unset] [(.ref n), vr, (.ref tk)])) rfl (by rw [hml]; rfl) (Steps.refl _) (a := tk) (by rw [eh_9]; exact q_10) q_10' (argsL := [vr, (.ref n)]) (rest := []) (lenOf pd_6 rfl) rfl (by show 2 * 0 + _ ≤ _; exact Nat.le_of_eq rfl) (hb hby dsp2_24) (fun _ _ => ⟨rfl, eh_9, (by decide : 0 + 1 ≤ _), (by decide : 0 + 2 ≤ _)⟩)
      dsimp only [Pt.U, Pt.locs, Pt.cells, Pt.slots] at X_10 l_10 y_10 z_10 st_10 hQ_10
      subst l_10 y_10 z_10
      obtain ⟨ar, kar, w1, w2, M1, M2, rfl, N_10q, K_10, le_ar, V_ar, O_ar, C_1, C_2, eL, B1, B2⟩ := hQ_10
      have ne_a_ar : a ≠ ar := Nat.ne_of_lt (Nat.lt_of_lt_of_le E_a.lt le_ar)
      have fO := own_Tr_fresh C_l le_ar
      have fS := own_Tr_fresh C_r le_ar
      have le_n0_ar := Nat.le_trans Z0 le_ar
      have le_hh_ar := Nat.le_trans Z1 le_ar
      have Z0 := Nat.le_trans Z0 K_10.1
      have Z1 := Nat.le_trans Z1 K_10.1
      have E_tk := E_tk.keep K_10
      have E_a := E_a.keep K_10
      have F_places_a := F_places_a.keep K_10 dA2
      have F_low_a := F_low_a.keep K_10 dA2
      have F_high_a := F_high_a.keep K_10 dA2
      have F_firstRun_a := F_firstRun_a.keep K_10 dA2
      have F_kept_a := F_kept_a.keep K_10 dA2
      have F_keptLeft_a := F_keptLeft_a.keep K_10 dA2
      have F_keptRight_a := F_keptRight_a.keep K_10 dA2
      have C_l := own_Tr_keep K_10 _ _ _ C_l d12
      have K0 := K0.trans K_10 (fun x hx => Or.inl (own_in_r hx))
      subst eL
      obtain ⟨dM1, dM2⟩ := own_ninA dA2
      obtain ⟨fM1, fM2⟩ := own_ninA fS
      have hw1 := own_Tr_ref C_1
      have hw2 := own_Tr_ref C_2
      have N_10 := Fr.app N_9 N_10q
      refine hst (fun _ kt => st_10.trans kt) ?_
      show G (T_10.setTop (mkF mI 27 #[.val (.ref tk), .val (.ref a), .val (.ref n), .unset] [(.ref ar)]))
      refine o_astoreN hst X_10.here hx (hb hby dsp2_27) (pc' := 28) rfl (Lt := #[.val (.ref tk), .val (.ref a), .val (.ref n), .val (.ref ar)]) rfl rfl ?_
      refine o_aloadN hst X_10.here hx (hb hby dsp2_28) (pc' := 29) rfl rfl rfl ?_
      refine o_aloadN hst X_10.here hx (hb hby dsp2_29) (pc' := 30) rfl rfl rfl ?_
      refine o_aloadN hst X_10.here hx (hb hby dsp2_30) (pc' := 31) rfl rfl rfl ?_
      refine o_iconst hst X_10.here hx (hb hby dsp2_31) (pc' := 32) rfl (z := (0 : Int32)) rfl ?_
      obtain ⟨cl_11, Ar_11, -, S_11, M_11, Hs_11, -⟩ := id V_ar
      have hin_11 : ¬ ((0 : Int32) < 0 ∨ cl_11.slots.size ≤ ((0 : Int32)).toNatClampNeg) := inb_of S_11 ⟨by decide, by decide⟩
      have hat_11 : cl_11.slots[((0 : Int32)).toNatClampNeg]? = some w1 := Has.at Hs_11 hin_11 rfl
      refine hst (X_10.aaload hx (j := (0 : Int32)) (v := w1) Ar_11.1 (State.isArrayOf_alike hZ.alike Ar_11.2.1) rfl Ar_11.2.2 hin_11 hat_11 (g := (mkF mI 32 #[.val (.ref tk), .val (.ref a), .val (.ref n), .val (.ref ar)] [(.int (0 : Int32)), (.ref ar), (.ref a), (.ref tk)])) rfl rfl (hb hby dsp2_32)) ?_
      show G (T_10.setTop (mkF mI 33 #[.val (.ref tk), .val (.ref a), .val (.ref n), .val (.ref ar)] [w1, (.ref a), (.ref tk)]))
      obtain ⟨cq_12, kq_12, q_12a, q_12b, q_12c⟩ := isOf hZ rfl E_tk
      obtain ⟨_, _, ⟨T_12, L_12, k_12, n_12⟩, -, X_12, ⟨Lc_12, hQ_12, l_12, y_12, z_12⟩, st_12⟩ := X_10.virtualBack hx (y := (⟨own_TP, "setRight", "(Lcom/example/tierfold/tierfold/tiered/SharedTail;Lcom/example/tierfold/tierfold/tiered/SharedTail;)V"⟩ : MethodName)) (z := (⟨own_S1, "setRight", "(Lcom/example/tierfold/tierfold/tiered/SharedTail;Lcom/example/tierfold/tierfold/tiered/SharedTail;)V"⟩ : MethodName)) hown (mvT hZ (own_w153 hw)) (mvT hZ (own_w154 hw)) (own_nf (y1 := (⟨own_TP, "insert", "(Lcom/example/tierfold/tierfold/tiered/SharedTail;Lcom/example/tierfold/tierfold/tiered/SharedTail;)Lcom/example/tierfold/tierfold/tiered/SharedTail;"⟩ : MethodName)) (notFace_of_selects (args := #[]) (mvT hZ (own_w128 hw))) rfl (mvT (args := #[]) hZ (own_w127 hw))) (mvT hZ (own_w155 hw)) (mvT hZ (own_w156 hw)) (by decide) (backOf (W := 0) (rmsr lL Z a0 hw [] tk a w1 vl vr pa la ga T_10.heap n0 Z0 hw1 ⟨E_a, F_places_a, F_low_a, F_high_a, F_firstRun_a, _, F_kept_a⟩ ⟨F_keptLeft_a, F_keptRight_a⟩ le_n0_a) hZ (own_w157 hw) (own_w148 hw) (by decide) (by decide)) q_12a q_12c (g := (mkF mI 33 #[.val (.ref tk), .val (.ref a), .val (.ref n), .val (.ref ar)] [w1, (.ref a), (.ref tk)])) rfl (by rw [hml]; rfl) (Steps.refl _) (argsL := [(.ref a), w1]) (rest := []) (lenOf pd_7 rfl) rfl (by show 2 * 0 + _ ≤ _; exact Nat.le_of_eq rfl) (hb hby dsp2_33) (fun _ _ => ⟨rfl, rfl, (by decide : 1 + 0 ≤ _), (by decide : 2 + 0 ≤ _)⟩)
      dsimp only [Pt.U, Pt.locs, Pt.cells, Pt.slots] at X_12 l_12 y_12 z_12 st_12 hQ_12
      subst l_12 y_12 z_12
      obtain ⟨rfl, N_12q, K_12, ⟨Gx, G_places_a, G_low_a, G_high_a, G_firstRun_a, zk_a, G_kept_a⟩, ⟨GKl, GKr⟩⟩ := hQ_12
      have Z0 := Nat.le_trans Z0 K_12.1
      have Z1 := Nat.le_trans Z1 K_12.1
      have E_tk := E_tk.keep K_12
      have E_a := E_a.keep K_12
      have C_l := own_Tr_keep K_12 _ _ _ C_l (own_nw dA1)
      have K0 := K0.trans K_12 (allS (Or.inl own_in_m) all0)
      have C_1 := own_Tr_keep K_12 _ _ _ C_1 (own_nw dM1)
      have C_2 := own_Tr_keep K_12 _ _ _ C_2 (own_nw dM2)
      have V_ar := V_ar.keep K_12 (ninS (Ne.symm ne_a_ar) nin0)
      have F_places_a := G_places_a
      have F_low_a := G_low_a
      have F_high_a := G_high_a
      have F_firstRun_a := G_firstRun_a
      have F_kept_a := G_kept_a
      have F_keptLeft_a := GKl
      have F_keptRight_a := GKr
      have N_12 := Fr.app N_10 N_12q
      refine hst (fun _ kt => st_12.trans kt) ?_
      show G (T_12.setTop (mkF mI 36 #[.val (.ref tk), .val (.ref a), .val (.ref n), .val (.ref ar)] []))
      refine o_aloadN hst X_12.here hx (hb hby dsp2_36) (pc' := 37) rfl rfl rfl ?_
      refine o_aloadN hst X_12.here hx (hb hby dsp2_37) (pc' := 38) rfl rfl rfl ?_
      obtain ⟨cq_13, kq_13, q_13a, q_13b, q_13c⟩ := isOf hZ rfl E_tk
      obtain ⟨_, _, ⟨T_13, L_13, k_13, n_13⟩, -, X_13, ⟨Lc_13, hQ_13, l_13, y_13, z_13⟩, st_13⟩ := X_12.virtualBack hx (y := (⟨own_TP, "update", "(Lcom/example/tierfold/tierfold/tiered/SharedTail;)V"⟩ : MethodName)) (z := (⟨own_TP, "update", "(Lcom/example/tierfold/tierfold/tiered/SharedTail;)V"⟩ : MethodName)) hown (mvT hZ (own_w158 hw)) (mvT hZ (own_w159 hw)) (notFace_of_selects (args := #[]) (mvT hZ (own_w161 hw))) (mvT hZ (own_w161 hw)) (mvT hZ (own_w160 hw)) (by decide) (backOf (W := 0) (rmup lL Z a0 hw [] tk a  T_12.heap n0 Z0) hZ (own_w162 hw) (own_w129 hw) (by decide) (by decide)) q_13a q_13c (g := (mkF mI 38 #[.val (.ref tk), .val (.ref a), .val (.ref n), .val (.ref ar)] [(.ref a), (.ref tk)])) rfl (by rw [hml]; rfl) (Steps.refl _) (argsL := [(.ref a)]) (rest := []) (lenOf pd_8 rfl) rfl (by show 2 * 0 + _ ≤ _; exact Nat.le_of_eq rfl) (hb hby dsp2_38) (fun _ _ => ⟨rfl, rfl, (by decide : 1 + 0 ≤ _), (by decide : 2 + 0 ≤ _)⟩)
      dsimp only [Pt.U, Pt.locs, Pt.cells, Pt.slots] at X_13 l_13 y_13 z_13 st_13 hQ_13
      subst l_13 y_13 z_13
      obtain ⟨rfl, N_13q, eh_13⟩ := hQ_13
      have N_13 := Fr.app N_12 N_13q
      refine hst (fun _ kt => st_13.trans kt) ?_
      show G (T_13.setTop (mkF mI 41 #[.val (.ref tk), .val (.ref a), .val (.ref n), .val (.ref ar)] []))
      refine o_aloadN hst X_13.here hx (hb hby dsp2_41) (pc' := 42) rfl rfl rfl ?_
      refine o_iconst hst X_13.here hx (hb hby dsp2_42) (pc' := 43) rfl (z := (0 : Int32)) rfl ?_
      refine o_aloadN hst X_13.here hx (hb hby dsp2_43) (pc' := 44) rfl rfl rfl ?_
      obtain ⟨cl_14, Ar_14, q_14, S_14, M_14, Hs_14, Gs_14⟩ := V_ar
      have hin_14 : ¬ ((0 : Int32) < 0 ∨ cl_14.slots.size ≤ ((0 : Int32)).toNatClampNeg) := inb_of S_14 ⟨by decide, by decide⟩
      obtain ⟨T_14, h_14, X_14, e_14, W_14, st_14⟩ := stR X_13 hx hZ eh_13 Ar_14 (j := (0 : Int32)) (v := (.ref a)) hin_14 rfl (Sto.ofV Ar_14 q_14 O_ar (Ins.self E_a)) (g := (mkF mI 44 #[.val (.ref tk), .val (.ref a), .val (.ref n), .val (.ref ar)] [(.ref a), (.int (0 : Int32)), (.ref ar)])) rfl rfl (hb hby dsp2_44)
      have V_ar := Arv.set Ar_14 q_14 S_14 M_14 Hs_14 Gs_14 rfl W_14 0 rfl (Nat.le_of_ble_eq_true rfl)
      have V_ar : Arv Z h_14 ar kar (.object own_ST) (2 : Int32) [(.ref a), w2] .null := V_ar
      have Z0 := Nat.le_trans Z0 (Keep.of_wr W_14).1
      have Z1 := Nat.le_trans Z1 (Keep.of_wr W_14).1
      have E_tk := E_tk.wr W_14
      have E_a := E_a.wr W_14
      have C_l := own_Tr_keep (Keep.of_wr W_14) _ _ _ C_l (own_nw fO)
      have K0 := K0.wr W_14 (Or.inr le_hh_ar)
      have C_1 := own_Tr_keep (Keep.of_wr W_14) _ _ _ C_1 (own_nw fM1)
      have C_2 := own_Tr_keep (Keep.of_wr W_14) _ _ _ C_2 (own_nw fM2)
      have F_places_a := F_places_a.other W_14 (Or.inl ne_a_ar)
      have F_low_a := F_low_a.other W_14 (Or.inl ne_a_ar)
      have F_high_a := F_high_a.other W_14 (Or.inl ne_a_ar)
      have F_firstRun_a := F_firstRun_a.other W_14 (Or.inl ne_a_ar)
      have F_kept_a := F_kept_a.other W_14 (Or.inl ne_a_ar)
      have F_keptLeft_a := F_keptLeft_a.other W_14 (Or.inl ne_a_ar)
      have F_keptRight_a := F_keptRight_a.other W_14 (Or.inl ne_a_ar)
      have N_14 := Fr.snoc X_14 N_13 le_n0_ar
      refine hst st_14 ?_
      show G (T_14.setTop (mkF mI 45 #[.val (.ref tk), .val (.ref a), .val (.ref n), .val (.ref ar)] []))
      refine o_aloadN hst X_14.here hx (hb hby dsp2_45) (pc' := 46) rfl rfl rfl ?_
      exact hend (own_goRet X_14 hx Bd.returns rfl (Or.inr (Or.inr (Or.inr (Or.inr ⟨rfl, rfl, rfl⟩)))) (hb hby dsp2_46) Bd.notSynchronized (by rw [e_14]; exact ⟨ar, kar, (.ref a), w2, L1 ++ (a, pa, la, ga) :: M1, M2, rfl, N_14, K0, le_hh_ar, V_ar, O_ar, own_Tr_mk ⟨E_a, F_places_a, F_low_a, F_high_a, F_firstRun_a, _, F_kept_a⟩ ⟨F_keptLeft_a, F_keptRight_a⟩ C_l C_1, own_Tr_mono _ _ _ C_2, by simp, own_sp1 sA1 hB B1, B2⟩) (by decide) (by decide))
theorem din0_0 : decode prog_159_method_7_code 0 = .ok (.aload_n 1, 1) := by decide +kernel
theorem din0_1 : decode prog_159_method_7_code 1 = .ok (.ifnonnull 5, 3) := by decide +kernel
theorem din0_4 : decode prog_159_method_7_code 4 = .ok (.aload_n 2, 1) := by decide +kernel
theorem din0_5 : decode prog_159_method_7_code 5 = .ok (.areturn, 1) := by decide +kernel
theorem ef_in0 (mI : MethodId) (tk : Addr) (v : Value) (n : Addr) (e_v : v.isRef = true) : entryFrame mI #[(.ref tk), v, (.ref n)] 4 = mkF mI 0 #[.val (.ref tk), .val v, .val (.ref n), .unset] [] := by rcases ref_cases e_v with rfl | ⟨_, rfl⟩ <;> first | (simp [entryFrame, mkF, argsToLocals, Value.category]; done) | rfl
theorem pn_in0 : plainName own_TP = true := by first | decide +kernel | (simp [plainName, overriddenIn]; done)
set_option maxRecDepth 65536 in
set_option maxHeartbeats 40000000 in
theorem rmin0 (lL : Launch) (Z : State) (a0 : Array Value) (hw : ∀ d ∈ tables_1, d.before a0 Z = true) (ws : List Jvm.Cond) (tk : Addr) (v : Value) (n : Addr) (Lq : List own_R) (pn : Int32) (ln : Int64) (gn : Int64) (h0 : Heap) (n0 : Nat) (Z0 : n0 ≤ h0.size) (hv : v.isRef = true) (E_tk : Exa Z h0 tk own_S1) (C_t : own_Tr Z h0 0 v Lq) (N_n : own_Nd Z h0 n pn ln gn) (L_n : own_Lk Z h0 n .null .null) (le_n0_n : n0 ≤ n) (D_n : n ∉ own_as Lq) (D_L : (own_as Lq).Pairwise (· ≠ ·)) (S_L : Lq.Pairwise own_bf) (B_L : ∀ x ∈ own_as Lq, n0 ≤ x) (H_L : ∀ x ∈ Lq, own_kk x.2.1 x.2.2.1 pn ln ∨ own_kk pn ln x.2.1 x.2.2.1) :
    MetFree lL (⟨own_TP, "insert", "(Lcom/example/tierfold/tierfold/tiered/SharedTail;Lcom/example/tierfold/tierfold/tiered/SharedTail;)Lcom/example/tierfold/tierfold/tiered/SharedTail;"⟩ : MethodName) (head1 (Jvm.Cond.code (⟨own_TP, "insert", "(Lcom/example/tierfold/tierfold/tiered/SharedTail;Lcom/example/tierfold/tierfold/tiered/SharedTail;)Lcom/example/tierfold/tierfold/tiered/SharedTail;"⟩ : MethodName) prog_159_method_7_code 4 (some (.object own_ST)) :: ws) ({ frames := 0, cells := 0, slots := 0, locals := 0 } : Room)) (fun a_ U_ => a_ = #[(.ref tk), v, (.ref n)] ∧ Z.Warmed39 U_.vm ∧ U_.heap = h0) (fun _ _ _ _ _ => True) (fun _ U_ o_ W_ => ∃ v_ L_, o_ = .returned v_ ∧ own_Qin Z 1 n pn ln gn Lq h0 n0 v_ W_.heap L_ ∧ FrameEnd U_ o_ W_ L_ ({ frames := 0, cells := 0, slots := 0, locals := 0 } : Room).cells ({ frames := 0, cells := 0, slots := 0, locals := 0 } : Room).slots) := by
  refine MetFree.of_bodySF (plainFor_of_name pn_in0) hisR ?_
  intro pP eE sS mI args below meth cC s₁ Bd hml0 hP hK
  obtain ⟨rfl, hZ, hh⟩ := hP
  have hx := Bd.exec
  have hby := Bd.bytes
  have hml : cC.maxLocals = 4 := hml0
  have hown : sS.vm.findClass own_TP = some mI.cls := by have z := findClass_of_methodNamed Bd.named; exact z
  have hnm := (name_of_methodNamed Bd.named Bd.method).1
  have X0 : Stand pP lL eE ({ frames := 0, cells := 0, slots := 0, locals := 0 } : Room) sS mI #[(.ref tk), v, (.ref n)] below meth cC s₁ [] 0 0 := Stand.of_body Bd
  have e0 : s₁.heap = h0 := by rw [← hh, Bd.state]; rfl
  have N0 := Fr.nil n0
  obtain ⟨G, hG, hst, hend⟩ := own_abs pP eE below sS (own_Qin Z 1 n pn ln gn Lq h0 n0) ({ frames := 0, cells := 0, slots := 0, locals := 0 } : Room).cells ({ frames := 0, cells := 0, slots := 0, locals := 0 } : Room).slots
  refine hG (S := s₁.setTop (entryFrame mI #[(.ref tk), v, (.ref n)] 4)) (hst (fun t_ kt_ => castTop (ef_in0 mI tk v n hv) kt_) ?_)
  have Z1 := Nat.le_refl h0.size
  obtain ⟨E_n, F_places_n, F_low_n, F_high_n, F_firstRun_n, zk_n, F_kept_n⟩ := N_n
  obtain ⟨F_keptLeft_n, F_keptRight_n⟩ := L_n
  obtain ⟨rfl, rfl⟩ := own_Tr_0 C_t
  show G (s₁.setTop (mkF mI 0 #[.val (.ref tk), .val .null, .val (.ref n), .unset] []))
  refine o_aloadN hst X0.here hx (hb hby din0_0) (pc' := 1) rfl rfl rfl ?_
  refine hst (fun _ kt => XS.ifnonnullNo X0.here hx rfl (hb hby din0_1) rfl kt) ?_
  show G (s₁.setTop (mkF mI 4 #[.val (.ref tk), .val .null, .val (.ref n), .unset] []))
  refine o_aloadN hst X0.here hx (hb hby din0_4) (pc' := 5) rfl rfl rfl ?_
  exact hend (own_goRet X0 hx Bd.returns rfl (Or.inr (Or.inr (Or.inr (Or.inr ⟨rfl, rfl, rfl⟩)))) (hb hby din0_5) Bd.notSynchronized (by rw [e0]; exact ⟨n, [], [], rfl, N0, Keep.refl h0 _, own_Tr_mk (L1 := []) ⟨E_n, F_places_n, F_low_n, F_high_n, F_firstRun_n, _, F_kept_n⟩ ⟨F_keptLeft_n, F_keptRight_n⟩ own_Tr_null own_Tr_null, rfl, (fun _ q => nomatch q), (fun _ q => nomatch q)⟩) (by decide) (by decide))
theorem din1_0 : decode prog_159_method_7_code 0 = .ok (.aload_n 1, 1) := by decide +kernel
theorem din1_1 : decode prog_159_method_7_code 1 = .ok (.ifnonnull 5, 3) := by decide +kernel
theorem din1_4 : decode prog_159_method_7_code 4 = .ok (.aload_n 2, 1) := by decide +kernel
theorem din1_5 : decode prog_159_method_7_code 5 = .ok (.areturn, 1) := by decide +kernel
theorem din1_6 : decode prog_159_method_7_code 6 = .ok (.aload_n 2, 1) := by decide +kernel
theorem din1_7 : decode prog_159_method_7_code 7 = .ok (.invokestatic 7, 3) := by decide +kernel
theorem din1_10 : decode prog_159_method_7_code 10 = .ok (.aload_n 1, 1) := by decide +kernel
theorem din1_11 : decode prog_159_method_7_code 11 = .ok (.invokestatic 7, 3) := by decide +kernel
theorem din1_14 : decode prog_159_method_7_code 14 = .ok (.if_icmp .le 33, 3) := by decide +kernel
theorem din1_17 : decode prog_159_method_7_code 17 = .ok (.aload_n 0, 1) := by decide +kernel
theorem din1_18 : decode prog_159_method_7_code 18 = .ok (.aload_n 1, 1) := by decide +kernel
theorem din1_19 : decode prog_159_method_7_code 19 = .ok (.aload_n 2, 1) := by decide +kernel
theorem din1_20 : decode prog_159_method_7_code 20 = .ok (.invokevirtual 13, 3) := by decide +kernel
theorem din1_23 : decode prog_159_method_7_code 23 = .ok (.astore_n 3, 1) := by decide +kernel
theorem din1_24 : decode prog_159_method_7_code 24 = .ok (.aload_n 0, 1) := by decide +kernel
theorem din1_25 : decode prog_159_method_7_code 25 = .ok (.aload_n 2, 1) := by decide +kernel
theorem din1_26 : decode prog_159_method_7_code 26 = .ok (.aload_n 3, 1) := by decide +kernel
theorem din1_27 : decode prog_159_method_7_code 27 = .ok (.iconst 0, 1) := by decide +kernel
theorem din1_28 : decode prog_159_method_7_code 28 = .ok (.aaload, 1) := by decide +kernel
theorem din1_29 : decode prog_159_method_7_code 29 = .ok (.invokevirtual 17, 3) := by decide +kernel
theorem din1_32 : decode prog_159_method_7_code 32 = .ok (.aload_n 0, 1) := by decide +kernel
theorem din1_33 : decode prog_159_method_7_code 33 = .ok (.aload_n 2, 1) := by decide +kernel
theorem din1_34 : decode prog_159_method_7_code 34 = .ok (.aload_n 3, 1) := by decide +kernel
theorem din1_35 : decode prog_159_method_7_code 35 = .ok (.iconst 1, 1) := by decide +kernel
theorem din1_36 : decode prog_159_method_7_code 36 = .ok (.aaload, 1) := by decide +kernel
theorem din1_37 : decode prog_159_method_7_code 37 = .ok (.invokevirtual 21, 3) := by decide +kernel
theorem din1_40 : decode prog_159_method_7_code 40 = .ok (.aload_n 0, 1) := by decide +kernel
theorem din1_41 : decode prog_159_method_7_code 41 = .ok (.aload_n 2, 1) := by decide +kernel
theorem din1_42 : decode prog_159_method_7_code 42 = .ok (.invokevirtual 24, 3) := by decide +kernel
theorem din1_45 : decode prog_159_method_7_code 45 = .ok (.aload_n 2, 1) := by decide +kernel
theorem din1_46 : decode prog_159_method_7_code 46 = .ok (.areturn, 1) := by decide +kernel
theorem din1_47 : decode prog_159_method_7_code 47 = .ok (.aload_n 2, 1) := by decide +kernel
theorem din1_48 : decode prog_159_method_7_code 48 = .ok (.aload_n 1, 1) := by decide +kernel
theorem din1_49 : decode prog_159_method_7_code 49 = .ok (.invokestatic 28, 3) := by decide +kernel
theorem din1_52 : decode prog_159_method_7_code 52 = .ok (.ifCond .eq 21, 3) := by decide +kernel
theorem din1_55 : decode prog_159_method_7_code 55 = .ok (.aload_n 0, 1) := by decide +kernel
theorem din1_56 : decode prog_159_method_7_code 56 = .ok (.aload_n 1, 1) := by decide +kernel
theorem din1_57 : decode prog_159_method_7_code 57 = .ok (.aload_n 0, 1) := by decide +kernel
theorem din1_58 : decode prog_159_method_7_code 58 = .ok (.aload_n 0, 1) := by decide +kernel
theorem din1_59 : decode prog_159_method_7_code 59 = .ok (.aload_n 1, 1) := by decide +kernel
theorem din1_60 : decode prog_159_method_7_code 60 = .ok (.invokevirtual 32, 3) := by decide +kernel
theorem din1_63 : decode prog_159_method_7_code 63 = .ok (.aload_n 2, 1) := by decide +kernel
theorem din1_64 : decode prog_159_method_7_code 64 = .ok (.invokevirtual 36, 3) := by decide +kernel
theorem din1_67 : decode prog_159_method_7_code 67 = .ok (.invokevirtual 17, 3) := by decide +kernel
theorem din1_70 : decode prog_159_method_7_code 70 = .ok (.goto 18, 3) := by decide +kernel
theorem din1_73 : decode prog_159_method_7_code 73 = .ok (.aload_n 0, 1) := by decide +kernel
theorem din1_74 : decode prog_159_method_7_code 74 = .ok (.aload_n 1, 1) := by decide +kernel
theorem din1_75 : decode prog_159_method_7_code 75 = .ok (.aload_n 0, 1) := by decide +kernel
theorem din1_76 : decode prog_159_method_7_code 76 = .ok (.aload_n 0, 1) := by decide +kernel
theorem din1_77 : decode prog_159_method_7_code 77 = .ok (.aload_n 1, 1) := by decide +kernel
theorem din1_78 : decode prog_159_method_7_code 78 = .ok (.invokevirtual 40, 3) := by decide +kernel
theorem din1_81 : decode prog_159_method_7_code 81 = .ok (.aload_n 2, 1) := by decide +kernel
theorem din1_82 : decode prog_159_method_7_code 82 = .ok (.invokevirtual 36, 3) := by decide +kernel
theorem din1_85 : decode prog_159_method_7_code 85 = .ok (.invokevirtual 21, 3) := by decide +kernel
theorem din1_88 : decode prog_159_method_7_code 88 = .ok (.aload_n 0, 1) := by decide +kernel
theorem din1_89 : decode prog_159_method_7_code 89 = .ok (.aload_n 1, 1) := by decide +kernel
theorem din1_90 : decode prog_159_method_7_code 90 = .ok (.invokevirtual 24, 3) := by decide +kernel
theorem din1_93 : decode prog_159_method_7_code 93 = .ok (.aload_n 1, 1) := by decide +kernel
theorem din1_94 : decode prog_159_method_7_code 94 = .ok (.areturn, 1) := by decide +kernel
theorem ef_in1 (mI : MethodId) (tk : Addr) (v : Value) (n : Addr) (e_v : v.isRef = true) : entryFrame mI #[(.ref tk), v, (.ref n)] 4 = mkF mI 0 #[.val (.ref tk), .val v, .val (.ref n), .unset] [] := by rcases ref_cases e_v with rfl | ⟨_, rfl⟩ <;> first | (simp [entryFrame, mkF, argsToLocals, Value.category]; done) | rfl
theorem pn_in1 : plainName own_TP = true := by first | decide +kernel | (simp [plainName, overriddenIn]; done)
set_option maxRecDepth 65536 in
set_option maxHeartbeats 40000000 in
theorem rmin1 (lL : Launch) (Z : State) (a0 : Array Value) (hw : ∀ d ∈ tables_1, d.before a0 Z = true) (ws : List Jvm.Cond) (tk : Addr) (v : Value) (n : Addr) (Lq : List own_R) (pn : Int32) (ln : Int64) (gn : Int64) (h0 : Heap) (n0 : Nat) (Z0 : n0 ≤ h0.size) (hv : v.isRef = true) (E_tk : Exa Z h0 tk own_S1) (C_t : own_Tr Z h0 1 v Lq) (N_n : own_Nd Z h0 n pn ln gn) (L_n : own_Lk Z h0 n .null .null) (le_n0_n : n0 ≤ n) (D_n : n ∉ own_as Lq) (D_L : (own_as Lq).Pairwise (· ≠ ·)) (S_L : Lq.Pairwise own_bf) (B_L : ∀ x ∈ own_as Lq, n0 ≤ x) (H_L : ∀ x ∈ Lq, own_kk x.2.1 x.2.2.1 pn ln ∨ own_kk pn ln x.2.1 x.2.2.1) :
    MetFree lL (⟨own_TP, "insert", "(Lcom/example/tierfold/tierfold/tiered/SharedTail;Lcom/example/tierfold/tierfold/tiered/SharedTail;)Lcom/example/tierfold/tierfold/tiered/SharedTail;"⟩ : MethodName) (head1 (Jvm.Cond.code (⟨own_TP, "insert", "(Lcom/example/tierfold/tierfold/tiered/SharedTail;Lcom/example/tierfold/tierfold/tiered/SharedTail;)Lcom/example/tierfold/tierfold/tiered/SharedTail;"⟩ : MethodName) prog_159_method_7_code 4 (some (.object own_ST)) :: ws) ({ frames := 2, cells := 1, slots := 2, locals := 30 } : Room)) (fun a_ U_ => a_ = #[(.ref tk), v, (.ref n)] ∧ Z.Warmed39 U_.vm ∧ U_.heap = h0) (fun _ _ _ _ _ => True) (fun _ U_ o_ W_ => ∃ v_ L_, o_ = .returned v_ ∧ own_Qin Z 2 n pn ln gn Lq h0 n0 v_ W_.heap L_ ∧ FrameEnd U_ o_ W_ L_ ({ frames := 2, cells := 1, slots := 2, locals := 30 } : Room).cells ({ frames := 2, cells := 1, slots := 2, locals := 30 } : Room).slots) := by
  refine MetFree.of_bodySF (plainFor_of_name pn_in1) hisR ?_
  intro pP eE sS mI args below meth cC s₁ Bd hml0 hP hK
  obtain ⟨rfl, hZ, hh⟩ := hP
  have hx := Bd.exec
  have hby := Bd.bytes
  have hml : cC.maxLocals = 4 := hml0
  have hown : sS.vm.findClass own_TP = some mI.cls := by have z := findClass_of_methodNamed Bd.named; exact z
  have hnm := (name_of_methodNamed Bd.named Bd.method).1
  have X0 : Stand pP lL eE ({ frames := 2, cells := 1, slots := 2, locals := 30 } : Room) sS mI #[(.ref tk), v, (.ref n)] below meth cC s₁ [] 0 0 := Stand.of_body Bd
  have e0 : s₁.heap = h0 := by rw [← hh, Bd.state]; rfl
  have N0 := Fr.nil n0
  obtain ⟨G, hG, hst, hend⟩ := own_abs pP eE below sS (own_Qin Z 2 n pn ln gn Lq h0 n0) ({ frames := 2, cells := 1, slots := 2, locals := 30 } : Room).cells ({ frames := 2, cells := 1, slots := 2, locals := 30 } : Room).slots
  refine hG (S := s₁.setTop (entryFrame mI #[(.ref tk), v, (.ref n)] 4)) (hst (fun t_ kt_ => castTop (ef_in1 mI tk v n hv) kt_) ?_)
  have Z1 := Nat.le_refl h0.size
  obtain ⟨E_n, F_places_n, F_low_n, F_high_n, F_firstRun_n, zk_n, F_kept_n⟩ := N_n
  obtain ⟨F_keptLeft_n, F_keptRight_n⟩ := L_n
  rcases own_Tr_S C_t with ⟨rfl, rfl⟩ | ⟨a, pa, la, ga, vl, vr, L1, L2, rfl, rfl, ⟨E_a, F_places_a, F_low_a, F_high_a, F_firstRun_a, zk_a, F_kept_a⟩, ⟨F_keptLeft_a, F_keptRight_a⟩, C_l, C_r⟩
  ·
    show G (s₁.setTop (mkF mI 0 #[.val (.ref tk), .val .null, .val (.ref n), .unset] []))
    refine o_aloadN hst X0.here hx (hb hby din1_0) (pc' := 1) rfl rfl rfl ?_
    refine hst (fun _ kt => XS.ifnonnullNo X0.here hx rfl (hb hby din1_1) rfl kt) ?_
    show G (s₁.setTop (mkF mI 4 #[.val (.ref tk), .val .null, .val (.ref n), .unset] []))
    refine o_aloadN hst X0.here hx (hb hby din1_4) (pc' := 5) rfl rfl rfl ?_
    exact hend (own_goRet X0 hx Bd.returns rfl (Or.inr (Or.inr (Or.inr (Or.inr ⟨rfl, rfl, rfl⟩)))) (hb hby din1_5) Bd.notSynchronized (by rw [e0]; exact ⟨n, [], [], rfl, N0, Keep.refl h0 _, own_Tr_mk (L1 := []) ⟨E_n, F_places_n, F_low_n, F_high_n, F_firstRun_n, _, F_kept_n⟩ ⟨F_keptLeft_n, F_keptRight_n⟩ own_Tr_null own_Tr_null, rfl, (fun _ q => nomatch q), (fun _ q => nomatch q)⟩) (by decide) (by decide))
  ·
    obtain ⟨dA1, dA2, d12, DL1, DL2⟩ := own_D D_L
    obtain ⟨sA1, sA2, SL1, SL2⟩ := own_S S_L
    have dN := own_nin D_n
    have ne_n_a := dN.2.1
    have le_n0_a := B_L a own_in_m
    have hvl := own_Tr_ref C_l
    have hvr := own_Tr_ref C_r
    have K0 := Keep.refl h0 (n :: own_as (L1 ++ (a, pa, la, ga) :: L2))
    show G (s₁.setTop (mkF mI 0 #[.val (.ref tk), .val (.ref a), .val (.ref n), .unset] []))
    refine o_aloadN hst X0.here hx (hb hby din1_0) (pc' := 1) rfl rfl rfl ?_
    refine hst (fun _ kt => XS.ifnonnullYes X0.here hx rfl (pc0 := 1) (pc' := 6) rfl (hb hby din1_1) rfl (by decide) (by decide) kt) ?_
    show G (s₁.setTop (mkF mI 6 #[.val (.ref tk), .val (.ref a), .val (.ref n), .unset] []))
    refine o_aloadN hst X0.here hx (hb hby din1_6) (pc' := 7) rfl rfl rfl ?_
    obtain ⟨_, _, ⟨T_1, L_1, k_1, n_1⟩, -, X_1, ⟨Lc_1, hQ_1, l_1, y_1, z_1⟩, st_1⟩ := Jvm.LawKit.callS X0 hx (y := (⟨own_TP, "priority", "(Lcom/example/tierfold/tierfold/tiered/SharedTail;)I"⟩ : MethodName)) hown (mvT hZ (own_w134 hw)) (mvT hZ (own_w135 hw)) (mvT hZ (own_w129 hw)) (mvT hZ (own_w136 hw)) (by decide) (backOf (W := 0) (rmpr lL Z a0 hw [] n pn ln h0 n0 Z0 F_low_n F_places_n) hZ (own_w136 hw) (own_w129 hw) (by decide) (by decide)) (g := (mkF mI 7 #[.val (.ref tk), .val (.ref a), .val (.ref n), .unset] [(.ref n)])) rfl (by rw [hml]; rfl) (argsL := [(.ref n)]) (rest := []) (lenOf pd_9 rfl) rfl (by show 2 * 0 + _ ≤ _; exact Nat.le_of_eq rfl) (hb hby din1_7) (fun _ _ => ⟨rfl, e0, (by decide : 0 + 0 ≤ _), (by decide : 0 + 0 ≤ _)⟩)
    dsimp only [Pt.U, Pt.locs, Pt.cells, Pt.slots] at X_1 l_1 y_1 z_1 st_1 hQ_1
    subst l_1 y_1 z_1
    obtain ⟨rfl, N_1q, eh_1⟩ := hQ_1
    have N_1 := Fr.app N0 N_1q
    refine hst (fun _ kt => st_1 _ kt) ?_
    show G (T_1.setTop (mkF mI 10 #[.val (.ref tk), .val (.ref a), .val (.ref n), .unset] [(.int (own_pr pn ln))]))
    refine o_aloadN hst X_1.here hx (hb hby din1_10) (pc' := 11) rfl rfl rfl ?_
    obtain ⟨_, _, ⟨T_2, L_2, k_2, n_2⟩, -, X_2, ⟨Lc_2, hQ_2, l_2, y_2, z_2⟩, st_2⟩ := Jvm.LawKit.callS X_1 hx (y := (⟨own_TP, "priority", "(Lcom/example/tierfold/tierfold/tiered/SharedTail;)I"⟩ : MethodName)) hown (mvT hZ (own_w134 hw)) (mvT hZ (own_w135 hw)) (mvT hZ (own_w129 hw)) (mvT hZ (own_w136 hw)) (by decide) (backOf (W := 1) (rmpr lL Z a0 hw [] a pa la h0 n0 Z0 F_low_a F_places_a) hZ (own_w136 hw) (own_w129 hw) (by decide) (by decide)) (g := (mkF mI 11 #[.val (.ref tk), .val (.ref a), .val (.ref n), .unset] [(.ref a), (.int (own_pr pn ln))])) rfl (by rw [hml]; rfl) (argsL := [(.ref a)]) (rest := [(.int (own_pr pn ln))]) (lenOf pd_9 rfl) rfl (by show 2 * 0 + _ ≤ _; exact Nat.le_of_eq rfl) (hb hby din1_11) (fun _ _ => ⟨rfl, eh_1, (by decide : 0 + 0 ≤ _), (by decide : 0 + 0 ≤ _)⟩)
    dsimp only [Pt.U, Pt.locs, Pt.cells, Pt.slots] at X_2 l_2 y_2 z_2 st_2 hQ_2
    subst l_2 y_2 z_2
    obtain ⟨rfl, N_2q, eh_2⟩ := hQ_2
    have N_2 := Fr.app N_1 N_2q
    refine hst (fun _ kt => st_2 _ kt) ?_
    show G (T_2.setTop (mkF mI 14 #[.val (.ref tk), .val (.ref a), .val (.ref n), .unset] [(.int (own_pr pa la)), (.int (own_pr pn ln))]))
    by_cases hP : (own_pr pa la) < (own_pr pn ln)
    ·
      refine hst (fun _ kt => XS.icmpNo X_2.here hx rfl (hb hby din1_14) rfl (tlt hP).2.2.2 kt) ?_
      show G (T_2.setTop (mkF mI 17 #[.val (.ref tk), .val (.ref a), .val (.ref n), .unset] []))
      refine o_aloadN hst X_2.here hx (hb hby din1_17) (pc' := 18) rfl rfl rfl ?_
      refine o_aloadN hst X_2.here hx (hb hby din1_18) (pc' := 19) rfl rfl rfl ?_
      refine o_aloadN hst X_2.here hx (hb hby din1_19) (pc' := 20) rfl rfl rfl ?_
      obtain ⟨cq_3, q_3, q_3'⟩ := E_tk.cell
      obtain ⟨_, _, ⟨T_3, L_3, k_3, n_3⟩, -, X_3, ⟨Lc_3, hQ_3, l_3, y_3, z_3⟩, st_3⟩ := X_2.privateBack hx (y := (⟨own_TP, "split", "(Lcom/example/tierfold/tierfold/tiered/SharedTail;Lcom/example/tierfold/tierfold/tiered/SharedTail;)[Lcom/example/tierfold/tierfold/tiered/SharedTail;"⟩ : MethodName)) hown (mvT hZ (own_w163 hw)) (mvT hZ (own_w164 hw)) (own_selp (own_nf (y1 := (⟨own_TP, "insert", "(Lcom/example/tierfold/tierfold/tiered/SharedTail;Lcom/example/tierfold/tierfold/tiered/SharedTail;)Lcom/example/tierfold/tierfold/tiered/SharedTail;"⟩ : MethodName)) (notFace_of_selects (args := #[]) (mvT hZ (own_w128 hw))) rfl (mvT (args := #[]) hZ (own_w127 hw))) (Cond.privateMethod_at (mvP hZ (own_w165 hw) (args := #[]))) (mvT hZ (own_w164 hw)) (by decide)) (Cond.privateMethod_at (mvP hZ (own_w165 hw) (args := #[]))) (mvT hZ (own_w166 hw)) (by decide) (backOf (W := 0) (rmsp1 lL Z a0 hw [] tk (.ref a) n (L1 ++ (a, pa, la, ga) :: L2) pn ln h0 n0 Z0 rfl E_tk C_t F_places_n F_low_n D_n D_L S_L B_L) hZ (own_w166 hw) (own_w129 hw) (by decide) (by decide)) (g := (mkF mI 20 #[.val (.ref tk), .val (.ref a), .val (.ref n), .unset] [(.ref n), (.ref a), (.ref tk)])) rfl (by rw [hml]; rfl) (Steps.refl _) (a := tk) (by rw [eh_2]; exact q_3) q_3' (argsL := [(.ref a), (.ref n)]) (rest := []) (lenOf pd_6 rfl) rfl (by show 2 * 0 + _ ≤ _; exact Nat.le_of_eq rfl) (hb hby din1_20) (fun _ _ => ⟨rfl, eh_2, (by decide : 0 + 1 ≤ _), (by decide : 0 + 2 ≤ _)⟩)
      dsimp only [Pt.U, Pt.locs, Pt.cells, Pt.slots] at X_3 l_3 y_3 z_3 st_3 hQ_3
      subst l_3 y_3 z_3
      obtain ⟨ar, kar, w1, w2, M1, M2, rfl, N_3q, K_3, le_ar, V_ar, O_ar, C_1, C_2, eL, B1, B2⟩ := hQ_3
      have ne_n_ar : n ≠ ar := Nat.ne_of_lt (Nat.lt_of_lt_of_le E_n.lt le_ar)
      have Z0 := Nat.le_trans Z0 K_3.1
      have Z1 := Nat.le_trans Z1 K_3.1
      have E_tk := E_tk.keep K_3
      have E_n := E_n.keep K_3
      have F_places_n := F_places_n.keep K_3 D_n
      have F_low_n := F_low_n.keep K_3 D_n
      have F_high_n := F_high_n.keep K_3 D_n
      have F_firstRun_n := F_firstRun_n.keep K_3 D_n
      have F_kept_n := F_kept_n.keep K_3 D_n
      have F_keptLeft_n := F_keptLeft_n.keep K_3 D_n
      have F_keptRight_n := F_keptRight_n.keep K_3 D_n
      have K0 := K0.trans K_3 (fun x hx => Or.inl (List.mem_cons_of_mem _ hx))
      obtain ⟨dM1, dM2⟩ := own_ninE eL D_n
      have hw1 := own_Tr_ref C_1
      have hw2 := own_Tr_ref C_2
      have N_3 := Fr.app N_2 N_3q
      refine hst (fun _ kt => st_3.trans kt) ?_
      show G (T_3.setTop (mkF mI 23 #[.val (.ref tk), .val (.ref a), .val (.ref n), .unset] [(.ref ar)]))
      refine o_astoreN hst X_3.here hx (hb hby din1_23) (pc' := 24) rfl (Lt := #[.val (.ref tk), .val (.ref a), .val (.ref n), .val (.ref ar)]) rfl rfl ?_
      refine o_aloadN hst X_3.here hx (hb hby din1_24) (pc' := 25) rfl rfl rfl ?_
      refine o_aloadN hst X_3.here hx (hb hby din1_25) (pc' := 26) rfl rfl rfl ?_
      refine o_aloadN hst X_3.here hx (hb hby din1_26) (pc' := 27) rfl rfl rfl ?_
      refine o_iconst hst X_3.here hx (hb hby din1_27) (pc' := 28) rfl (z := (0 : Int32)) rfl ?_
      obtain ⟨cl_4, Ar_4, -, S_4, M_4, Hs_4, -⟩ := id V_ar
      have hin_4 : ¬ ((0 : Int32) < 0 ∨ cl_4.slots.size ≤ ((0 : Int32)).toNatClampNeg) := inb_of S_4 ⟨by decide, by decide⟩
      have hat_4 : cl_4.slots[((0 : Int32)).toNatClampNeg]? = some w1 := Has.at Hs_4 hin_4 rfl
      refine hst (X_3.aaload hx (j := (0 : Int32)) (v := w1) Ar_4.1 (State.isArrayOf_alike hZ.alike Ar_4.2.1) rfl Ar_4.2.2 hin_4 hat_4 (g := (mkF mI 28 #[.val (.ref tk), .val (.ref a), .val (.ref n), .val (.ref ar)] [(.int (0 : Int32)), (.ref ar), (.ref n), (.ref tk)])) rfl rfl (hb hby din1_28)) ?_
      show G (T_3.setTop (mkF mI 29 #[.val (.ref tk), .val (.ref a), .val (.ref n), .val (.ref ar)] [w1, (.ref n), (.ref tk)]))
      obtain ⟨cq_5, kq_5, q_5a, q_5b, q_5c⟩ := isOf hZ rfl E_tk
      obtain ⟨_, _, ⟨T_5, L_5, k_5, n_5⟩, -, X_5, ⟨Lc_5, hQ_5, l_5, y_5, z_5⟩, st_5⟩ := X_3.virtualBack hx (y := (⟨own_TP, "setLeft", "(Lcom/example/tierfold/tierfold/tiered/SharedTail;Lcom/example/tierfold/tierfold/tiered/SharedTail;)V"⟩ : MethodName)) (z := (⟨own_S1, "setLeft", "(Lcom/example/tierfold/tierfold/tiered/SharedTail;Lcom/example/tierfold/tierfold/tiered/SharedTail;)V"⟩ : MethodName)) hown (mvT hZ (own_w170 hw)) (mvT hZ (own_w171 hw)) (own_nf (y1 := (⟨own_TP, "insert", "(Lcom/example/tierfold/tierfold/tiered/SharedTail;Lcom/example/tierfold/tierfold/tiered/SharedTail;)Lcom/example/tierfold/tierfold/tiered/SharedTail;"⟩ : MethodName)) (notFace_of_selects (args := #[]) (mvT hZ (own_w128 hw))) rfl (mvT (args := #[]) hZ (own_w127 hw))) (mvT hZ (own_w172 hw)) (mvT hZ (own_w173 hw)) (by decide) (backOf (W := 0) (rmsl lL Z a0 hw [] tk n w1 .null .null pn ln gn T_3.heap n0 Z0 hw1 ⟨E_n, F_places_n, F_low_n, F_high_n, F_firstRun_n, _, F_kept_n⟩ ⟨F_keptLeft_n, F_keptRight_n⟩ le_n0_n) hZ (own_w174 hw) (own_w148 hw) (by decide) (by decide)) q_5a q_5c (g := (mkF mI 29 #[.val (.ref tk), .val (.ref a), .val (.ref n), .val (.ref ar)] [w1, (.ref n), (.ref tk)])) rfl (by rw [hml]; rfl) (Steps.refl _) (argsL := [(.ref n), w1]) (rest := []) (lenOf pd_7 rfl) rfl (by show 2 * 0 + _ ≤ _; exact Nat.le_of_eq rfl) (hb hby din1_29) (fun _ _ => ⟨rfl, rfl, (by decide : 1 + 0 ≤ _), (by decide : 2 + 0 ≤ _)⟩)
      dsimp only [Pt.U, Pt.locs, Pt.cells, Pt.slots] at X_5 l_5 y_5 z_5 st_5 hQ_5
      subst l_5 y_5 z_5
      obtain ⟨rfl, N_5q, K_5, ⟨Gx, G_places_n, G_low_n, G_high_n, G_firstRun_n, zk_n, G_kept_n⟩, ⟨GKl, GKr⟩⟩ := hQ_5
      have Z0 := Nat.le_trans Z0 K_5.1
      have Z1 := Nat.le_trans Z1 K_5.1
      have E_tk := E_tk.keep K_5
      have E_n := E_n.keep K_5
      have K0 := K0.trans K_5 (allS (Or.inl (List.mem_of_getElem? (i := 0) rfl)) all0)
      have C_1 := own_Tr_keep K_5 _ _ _ C_1 (own_nw dM1)
      have C_2 := own_Tr_keep K_5 _ _ _ C_2 (own_nw dM2)
      have V_ar := V_ar.keep K_5 (ninS (Ne.symm ne_n_ar) nin0)
      have F_places_n := G_places_n
      have F_low_n := G_low_n
      have F_high_n := G_high_n
      have F_firstRun_n := G_firstRun_n
      have F_kept_n := G_kept_n
      have F_keptLeft_n := GKl
      have F_keptRight_n := GKr
      have N_5 := Fr.app N_3 N_5q
      refine hst (fun _ kt => st_5.trans kt) ?_
      show G (T_5.setTop (mkF mI 32 #[.val (.ref tk), .val (.ref a), .val (.ref n), .val (.ref ar)] []))
      refine o_aloadN hst X_5.here hx (hb hby din1_32) (pc' := 33) rfl rfl rfl ?_
      refine o_aloadN hst X_5.here hx (hb hby din1_33) (pc' := 34) rfl rfl rfl ?_
      refine o_aloadN hst X_5.here hx (hb hby din1_34) (pc' := 35) rfl rfl rfl ?_
      refine o_iconst hst X_5.here hx (hb hby din1_35) (pc' := 36) rfl (z := (1 : Int32)) rfl ?_
      obtain ⟨cl_6, Ar_6, -, S_6, M_6, Hs_6, -⟩ := id V_ar
      have hin_6 : ¬ ((1 : Int32) < 0 ∨ cl_6.slots.size ≤ ((1 : Int32)).toNatClampNeg) := inb_of S_6 ⟨by decide, by decide⟩
      have hat_6 : cl_6.slots[((1 : Int32)).toNatClampNeg]? = some w2 := Has.at Hs_6 hin_6 rfl
      refine hst (X_5.aaload hx (j := (1 : Int32)) (v := w2) Ar_6.1 (State.isArrayOf_alike hZ.alike Ar_6.2.1) rfl Ar_6.2.2 hin_6 hat_6 (g := (mkF mI 36 #[.val (.ref tk), .val (.ref a), .val (.ref n), .val (.ref ar)] [(.int (1 : Int32)), (.ref ar), (.ref n), (.ref tk)])) rfl rfl (hb hby din1_36)) ?_
      show G (T_5.setTop (mkF mI 37 #[.val (.ref tk), .val (.ref a), .val (.ref n), .val (.ref ar)] [w2, (.ref n), (.ref tk)]))
      obtain ⟨cq_7, kq_7, q_7a, q_7b, q_7c⟩ := isOf hZ rfl E_tk
      obtain ⟨_, _, ⟨T_7, L_7, k_7, n_7⟩, -, X_7, ⟨Lc_7, hQ_7, l_7, y_7, z_7⟩, st_7⟩ := X_5.virtualBack hx (y := (⟨own_TP, "setRight", "(Lcom/example/tierfold/tierfold/tiered/SharedTail;Lcom/example/tierfold/tierfold/tiered/SharedTail;)V"⟩ : MethodName)) (z := (⟨own_S1, "setRight", "(Lcom/example/tierfold/tierfold/tiered/SharedTail;Lcom/example/tierfold/tierfold/tiered/SharedTail;)V"⟩ : MethodName)) hown (mvT hZ (own_w153 hw)) (mvT hZ (own_w154 hw)) (own_nf (y1 := (⟨own_TP, "insert", "(Lcom/example/tierfold/tierfold/tiered/SharedTail;Lcom/example/tierfold/tierfold/tiered/SharedTail;)Lcom/example/tierfold/tierfold/tiered/SharedTail;"⟩ : MethodName)) (notFace_of_selects (args := #[]) (mvT hZ (own_w128 hw))) rfl (mvT (args := #[]) hZ (own_w127 hw))) (mvT hZ (own_w155 hw)) (mvT hZ (own_w156 hw)) (by decide) (backOf (W := 0) (rmsr lL Z a0 hw [] tk n w2 w1 .null pn ln gn T_5.heap n0 Z0 hw2 ⟨E_n, F_places_n, F_low_n, F_high_n, F_firstRun_n, _, F_kept_n⟩ ⟨F_keptLeft_n, F_keptRight_n⟩ le_n0_n) hZ (own_w157 hw) (own_w148 hw) (by decide) (by decide)) q_7a q_7c (g := (mkF mI 37 #[.val (.ref tk), .val (.ref a), .val (.ref n), .val (.ref ar)] [w2, (.ref n), (.ref tk)])) rfl (by rw [hml]; rfl) (Steps.refl _) (argsL := [(.ref n), w2]) (rest := []) (lenOf pd_7 rfl) rfl (by show 2 * 0 + _ ≤ _; exact Nat.le_of_eq rfl) (hb hby din1_37) (fun _ _ => ⟨rfl, rfl, (by decide : 1 + 0 ≤ _), (by decide : 2 + 0 ≤ _)⟩)
      dsimp only [Pt.U, Pt.locs, Pt.cells, Pt.slots] at X_7 l_7 y_7 z_7 st_7 hQ_7
      subst l_7 y_7 z_7
      obtain ⟨rfl, N_7q, K_7, ⟨Gx, G_places_n, G_low_n, G_high_n, G_firstRun_n, zk_n, G_kept_n⟩, ⟨GKl, GKr⟩⟩ := hQ_7
      have Z0 := Nat.le_trans Z0 K_7.1
      have Z1 := Nat.le_trans Z1 K_7.1
      have E_tk := E_tk.keep K_7
      have E_n := E_n.keep K_7
      have K0 := K0.trans K_7 (allS (Or.inl (List.mem_of_getElem? (i := 0) rfl)) all0)
      have C_1 := own_Tr_keep K_7 _ _ _ C_1 (own_nw dM1)
      have C_2 := own_Tr_keep K_7 _ _ _ C_2 (own_nw dM2)
      have V_ar := V_ar.keep K_7 (ninS (Ne.symm ne_n_ar) nin0)
      have F_places_n := G_places_n
      have F_low_n := G_low_n
      have F_high_n := G_high_n
      have F_firstRun_n := G_firstRun_n
      have F_kept_n := G_kept_n
      have F_keptLeft_n := GKl
      have F_keptRight_n := GKr
      have N_7 := Fr.app N_5 N_7q
      refine hst (fun _ kt => st_7.trans kt) ?_
      show G (T_7.setTop (mkF mI 40 #[.val (.ref tk), .val (.ref a), .val (.ref n), .val (.ref ar)] []))
      refine o_aloadN hst X_7.here hx (hb hby din1_40) (pc' := 41) rfl rfl rfl ?_
      refine o_aloadN hst X_7.here hx (hb hby din1_41) (pc' := 42) rfl rfl rfl ?_
      obtain ⟨cq_8, kq_8, q_8a, q_8b, q_8c⟩ := isOf hZ rfl E_tk
      obtain ⟨_, _, ⟨T_8, L_8, k_8, n_8⟩, -, X_8, ⟨Lc_8, hQ_8, l_8, y_8, z_8⟩, st_8⟩ := X_7.virtualBack hx (y := (⟨own_TP, "update", "(Lcom/example/tierfold/tierfold/tiered/SharedTail;)V"⟩ : MethodName)) (z := (⟨own_TP, "update", "(Lcom/example/tierfold/tierfold/tiered/SharedTail;)V"⟩ : MethodName)) hown (mvT hZ (own_w158 hw)) (mvT hZ (own_w159 hw)) (notFace_of_selects (args := #[]) (mvT hZ (own_w161 hw))) (mvT hZ (own_w161 hw)) (mvT hZ (own_w160 hw)) (by decide) (backOf (W := 0) (rmup lL Z a0 hw [] tk n  T_7.heap n0 Z0) hZ (own_w162 hw) (own_w129 hw) (by decide) (by decide)) q_8a q_8c (g := (mkF mI 42 #[.val (.ref tk), .val (.ref a), .val (.ref n), .val (.ref ar)] [(.ref n), (.ref tk)])) rfl (by rw [hml]; rfl) (Steps.refl _) (argsL := [(.ref n)]) (rest := []) (lenOf pd_8 rfl) rfl (by show 2 * 0 + _ ≤ _; exact Nat.le_of_eq rfl) (hb hby din1_42) (fun _ _ => ⟨rfl, rfl, (by decide : 1 + 0 ≤ _), (by decide : 2 + 0 ≤ _)⟩)
      dsimp only [Pt.U, Pt.locs, Pt.cells, Pt.slots] at X_8 l_8 y_8 z_8 st_8 hQ_8
      subst l_8 y_8 z_8
      obtain ⟨rfl, N_8q, eh_8⟩ := hQ_8
      have N_8 := Fr.app N_7 N_8q
      refine hst (fun _ kt => st_8.trans kt) ?_
      show G (T_8.setTop (mkF mI 45 #[.val (.ref tk), .val (.ref a), .val (.ref n), .val (.ref ar)] []))
      refine o_aloadN hst X_8.here hx (hb hby din1_45) (pc' := 46) rfl rfl rfl ?_
      exact hend (own_goRet X_8 hx Bd.returns rfl (Or.inr (Or.inr (Or.inr (Or.inr ⟨rfl, rfl, rfl⟩)))) (hb hby din1_46) Bd.notSynchronized (by rw [eh_8]; exact ⟨n, M1, M2, rfl, N_8, K0, own_Tr_mk ⟨E_n, F_places_n, F_low_n, F_high_n, F_firstRun_n, _, F_kept_n⟩ ⟨F_keptLeft_n, F_keptRight_n⟩ C_1 C_2, eL, B1, own_gt H_L eL B2⟩) (by decide) (by decide))
    ·
      refine hst (fun _ kt => XS.icmpYes X_2.here hx rfl (pc0 := 14) (pc' := 47) rfl (hb hby din1_14) rfl (flt hP).2.2.2 (by decide) (by decide) kt) ?_
      show G (T_2.setTop (mkF mI 47 #[.val (.ref tk), .val (.ref a), .val (.ref n), .unset] []))
      refine o_aloadN hst X_2.here hx (hb hby din1_47) (pc' := 48) rfl rfl rfl ?_
      refine o_aloadN hst X_2.here hx (hb hby din1_48) (pc' := 49) rfl rfl rfl ?_
      obtain ⟨_, _, ⟨T_9, L_9, k_9, n_9⟩, -, X_9, ⟨Lc_9, hQ_9, l_9, y_9, z_9⟩, st_9⟩ := Jvm.LawKit.callS X_2 hx (y := (⟨own_TP, "before", "(Lcom/example/tierfold/tierfold/tiered/SharedTail;Lcom/example/tierfold/tierfold/tiered/SharedTail;)Z"⟩ : MethodName)) hown (mvT hZ (own_w141 hw)) (mvT hZ (own_w142 hw)) (mvT hZ (own_w129 hw)) (mvT hZ (own_w143 hw)) (by decide) (backOf (W := 0) (rmbf lL Z a0 hw [] n a pn ln pa la h0 n0 Z0 F_places_n F_low_n F_places_a F_low_a) hZ (own_w143 hw) (own_w129 hw) (by decide) (by decide)) (g := (mkF mI 49 #[.val (.ref tk), .val (.ref a), .val (.ref n), .unset] [(.ref a), (.ref n)])) rfl (by rw [hml]; rfl) (argsL := [(.ref n), (.ref a)]) (rest := []) (lenOf pd_4 rfl) rfl (by show 2 * 0 + _ ≤ _; exact Nat.le_of_eq rfl) (hb hby din1_49) (fun _ _ => ⟨rfl, eh_2, (by decide : 0 + 0 ≤ _), (by decide : 0 + 0 ≤ _)⟩)
      dsimp only [Pt.U, Pt.locs, Pt.cells, Pt.slots] at X_9 l_9 y_9 z_9 st_9 hQ_9
      subst l_9 y_9 z_9
      obtain ⟨rfl, N_9q, eh_9⟩ := hQ_9
      have N_9 := Fr.app N_2 N_9q
      refine hst (fun _ kt => st_9 _ kt) ?_
      show G (T_9.setTop (mkF mI 52 #[.val (.ref tk), .val (.ref a), .val (.ref n), .unset] [(.int (own_bI pn ln pa la))]))
      by_cases hI : (own_bI pn ln pa la) = (0 : Int32)
      ·
        refine hst (fun _ kt => XS.ifYes X_9.here hx rfl (pc0 := 52) (pc' := 73) rfl (hb hby din1_52) rfl ((if0 _ _).trans (teq hI).1) (by decide) (by decide) kt) ?_
        show G (T_9.setTop (mkF mI 73 #[.val (.ref tk), .val (.ref a), .val (.ref n), .unset] []))
        have hB : own_kk pa la pn ln := (H_L (a, pa, la, ga) (List.mem_append.mpr (Or.inr (List.mem_cons.mpr (Or.inl rfl))))).resolve_right (own_bI_eq hI)
        refine o_aloadN hst X_9.here hx (hb hby din1_73) (pc' := 74) rfl rfl rfl ?_
        refine o_aloadN hst X_9.here hx (hb hby din1_74) (pc' := 75) rfl rfl rfl ?_
        refine o_aloadN hst X_9.here hx (hb hby din1_75) (pc' := 76) rfl rfl rfl ?_
        refine o_aloadN hst X_9.here hx (hb hby din1_76) (pc' := 77) rfl rfl rfl ?_
        refine o_aloadN hst X_9.here hx (hb hby din1_77) (pc' := 78) rfl rfl rfl ?_
        obtain ⟨cq_10, kq_10, q_10a, q_10b, q_10c⟩ := isOf hZ eh_9 E_tk
        obtain ⟨_, _, ⟨T_10, L_10, k_10, n_10⟩, -, X_10, ⟨Lc_10, hQ_10, l_10, y_10, z_10⟩, st_10⟩ := X_9.virtualBack hx (y := (⟨own_TP, "right", "(Lcom/example/tierfold/tierfold/tiered/SharedTail;)Lcom/example/tierfold/tierfold/tiered/SharedTail;"⟩ : MethodName)) (z := (⟨own_S1, "right", "(Lcom/example/tierfold/tierfold/tiered/SharedTail;)Lcom/example/tierfold/tierfold/tiered/SharedTail;"⟩ : MethodName)) hown (mvT hZ (own_w144 hw)) (mvT hZ (own_w145 hw)) (own_nf (y1 := (⟨own_TP, "insert", "(Lcom/example/tierfold/tierfold/tiered/SharedTail;Lcom/example/tierfold/tierfold/tiered/SharedTail;)Lcom/example/tierfold/tierfold/tiered/SharedTail;"⟩ : MethodName)) (notFace_of_selects (args := #[]) (mvT hZ (own_w128 hw))) rfl (mvT (args := #[]) hZ (own_w127 hw))) (mvT hZ (own_w146 hw)) (mvT hZ (own_w147 hw)) (by decide) (backOf (W := 3) (rmri lL Z a0 hw [] tk a vr h0 n0 Z0 hvr F_keptRight_a) hZ (own_w149 hw) (own_w148 hw) (by decide) (by decide)) q_10a q_10c (g := (mkF mI 78 #[.val (.ref tk), .val (.ref a), .val (.ref n), .unset] [(.ref a), (.ref tk), (.ref tk), (.ref a), (.ref tk)])) rfl (by rw [hml]; rfl) (Steps.refl _) (argsL := [(.ref a)]) (rest := [(.ref tk), (.ref a), (.ref tk)]) (lenOf pd_5 rfl) rfl (by show 2 * 0 + _ ≤ _; exact Nat.le_of_eq rfl) (hb hby din1_78) (fun _ _ => ⟨rfl, eh_9, (by decide : 0 + 0 ≤ _), (by decide : 0 + 0 ≤ _)⟩)
        dsimp only [Pt.U, Pt.locs, Pt.cells, Pt.slots] at X_10 l_10 y_10 z_10 st_10 hQ_10
        subst l_10 y_10 z_10
        obtain ⟨rfl, N_10q, eh_10⟩ := hQ_10
        have N_10 := Fr.app N_9 N_10q
        refine hst (fun _ kt => st_10.trans kt) ?_
        show G (T_10.setTop (mkF mI 81 #[.val (.ref tk), .val (.ref a), .val (.ref n), .unset] [vr, (.ref tk), (.ref a), (.ref tk)]))
        refine o_aloadN hst X_10.here hx (hb hby din1_81) (pc' := 82) rfl rfl rfl ?_
        obtain ⟨cq_11, kq_11, q_11a, q_11b, q_11c⟩ := isOf hZ eh_10 E_tk
        obtain ⟨_, _, ⟨T_11, L_11, k_11, n_11⟩, -, X_11, ⟨Lc_11, hQ_11, l_11, y_11, z_11⟩, st_11⟩ := X_10.virtualBack hx (y := (⟨own_TP, "insert", "(Lcom/example/tierfold/tierfold/tiered/SharedTail;Lcom/example/tierfold/tierfold/tiered/SharedTail;)Lcom/example/tierfold/tierfold/tiered/SharedTail;"⟩ : MethodName)) (z := (⟨own_TP, "insert", "(Lcom/example/tierfold/tierfold/tiered/SharedTail;Lcom/example/tierfold/tierfold/tiered/SharedTail;)Lcom/example/tierfold/tierfold/tiered/SharedTail;"⟩ : MethodName)) hown (mvT hZ (own_w152 hw)) (mvT hZ (own_w126 hw)) (notFace_of_selects (args := #[]) (mvT hZ (own_w128 hw))) (mvT hZ (own_w128 hw)) (mvT hZ (own_w127 hw)) (by decide) (backOf (W := 2) (rmin0 lL Z a0 hw [] tk vr n L2 pn ln gn h0 n0 Z0 hvr E_tk C_r ⟨E_n, F_places_n, F_low_n, F_high_n, F_firstRun_n, _, F_kept_n⟩ ⟨F_keptLeft_n, F_keptRight_n⟩ le_n0_n dN.2.2 DL2 SL2 (fun x hx => B_L x (own_in_r hx)) (fun x hx => H_L x (List.mem_append.mpr (Or.inr (List.mem_cons.mpr (Or.inr hx)))))) hZ (own_w130 hw) (own_w129 hw) (by decide) (by decide)) q_11a q_11c (g := (mkF mI 82 #[.val (.ref tk), .val (.ref a), .val (.ref n), .unset] [(.ref n), vr, (.ref tk), (.ref a), (.ref tk)])) rfl (by rw [hml]; rfl) (Steps.refl _) (argsL := [vr, (.ref n)]) (rest := [(.ref a), (.ref tk)]) (lenOf pd_10 rfl) rfl (by show 2 * 0 + _ ≤ _; exact Nat.le_of_eq rfl) (hb hby din1_82) (fun _ _ => ⟨rfl, eh_10, (by decide : 0 + 0 ≤ _), (by decide : 0 + 0 ≤ _)⟩)
        dsimp only [Pt.U, Pt.locs, Pt.cells, Pt.slots] at X_11 l_11 y_11 z_11 st_11 hQ_11
        subst l_11 y_11 z_11
        obtain ⟨wb, La, Lb, rfl, N_11q, K_11, C_w, eL, B1, B2⟩ := hQ_11
        have Z0 := Nat.le_trans Z0 K_11.1
        have Z1 := Nat.le_trans Z1 K_11.1
        have E_tk := E_tk.keep K_11
        have E_a := E_a.keep K_11
        have F_places_a := F_places_a.keep K_11 (ninS (Ne.symm ne_n_a) dA2)
        have F_low_a := F_low_a.keep K_11 (ninS (Ne.symm ne_n_a) dA2)
        have F_high_a := F_high_a.keep K_11 (ninS (Ne.symm ne_n_a) dA2)
        have F_firstRun_a := F_firstRun_a.keep K_11 (ninS (Ne.symm ne_n_a) dA2)
        have F_kept_a := F_kept_a.keep K_11 (ninS (Ne.symm ne_n_a) dA2)
        have F_keptLeft_a := F_keptLeft_a.keep K_11 (ninS (Ne.symm ne_n_a) dA2)
        have F_keptRight_a := F_keptRight_a.keep K_11 (ninS (Ne.symm ne_n_a) dA2)
        have C_l := own_Tr_keep K_11 _ _ _ C_l (own_nc dN.1 d12)
        have K0 := K0.trans K_11 (own_subc fun x hx => own_in_r hx)
        subst eL
        have dW : a ∉ own_as (La ++ (n, pn, ln, gn) :: Lb) := own_ninM dA2 (Ne.symm ne_n_a)
        have N_11 := Fr.app N_10 N_11q
        refine hst (fun _ kt => st_11.trans kt) ?_
        show G (T_11.setTop (mkF mI 85 #[.val (.ref tk), .val (.ref a), .val (.ref n), .unset] [(.ref wb), (.ref a), (.ref tk)]))
        obtain ⟨cq_12, kq_12, q_12a, q_12b, q_12c⟩ := isOf hZ rfl E_tk
        obtain ⟨_, _, ⟨T_12, L_12, k_12, n_12⟩, -, X_12, ⟨Lc_12, hQ_12, l_12, y_12, z_12⟩, st_12⟩ := X_11.virtualBack hx (y := (⟨own_TP, "setRight", "(Lcom/example/tierfold/tierfold/tiered/SharedTail;Lcom/example/tierfold/tierfold/tiered/SharedTail;)V"⟩ : MethodName)) (z := (⟨own_S1, "setRight", "(Lcom/example/tierfold/tierfold/tiered/SharedTail;Lcom/example/tierfold/tierfold/tiered/SharedTail;)V"⟩ : MethodName)) hown (mvT hZ (own_w153 hw)) (mvT hZ (own_w154 hw)) (own_nf (y1 := (⟨own_TP, "insert", "(Lcom/example/tierfold/tierfold/tiered/SharedTail;Lcom/example/tierfold/tierfold/tiered/SharedTail;)Lcom/example/tierfold/tierfold/tiered/SharedTail;"⟩ : MethodName)) (notFace_of_selects (args := #[]) (mvT hZ (own_w128 hw))) rfl (mvT (args := #[]) hZ (own_w127 hw))) (mvT hZ (own_w155 hw)) (mvT hZ (own_w156 hw)) (by decide) (backOf (W := 0) (rmsr lL Z a0 hw [] tk a (.ref wb) vl vr pa la ga T_11.heap n0 Z0 rfl ⟨E_a, F_places_a, F_low_a, F_high_a, F_firstRun_a, _, F_kept_a⟩ ⟨F_keptLeft_a, F_keptRight_a⟩ le_n0_a) hZ (own_w157 hw) (own_w148 hw) (by decide) (by decide)) q_12a q_12c (g := (mkF mI 85 #[.val (.ref tk), .val (.ref a), .val (.ref n), .unset] [(.ref wb), (.ref a), (.ref tk)])) rfl (by rw [hml]; rfl) (Steps.refl _) (argsL := [(.ref a), (.ref wb)]) (rest := []) (lenOf pd_7 rfl) rfl (by show 2 * 0 + _ ≤ _; exact Nat.le_of_eq rfl) (hb hby din1_85) (fun _ _ => ⟨rfl, rfl, (by decide : 0 + 0 ≤ _), (by decide : 0 + 0 ≤ _)⟩)
        dsimp only [Pt.U, Pt.locs, Pt.cells, Pt.slots] at X_12 l_12 y_12 z_12 st_12 hQ_12
        subst l_12 y_12 z_12
        obtain ⟨rfl, N_12q, K_12, ⟨Gx, G_places_a, G_low_a, G_high_a, G_firstRun_a, zk_a, G_kept_a⟩, ⟨GKl, GKr⟩⟩ := hQ_12
        have Z0 := Nat.le_trans Z0 K_12.1
        have Z1 := Nat.le_trans Z1 K_12.1
        have E_tk := E_tk.keep K_12
        have E_a := E_a.keep K_12
        have C_l := own_Tr_keep K_12 _ _ _ C_l (own_nw dA1)
        have K0 := K0.trans K_12 (allS (Or.inl (List.mem_cons_of_mem _ own_in_m)) all0)
        have C_w := own_Tr_keep K_12 _ _ _ C_w (own_nw dW)
        have F_places_a := G_places_a
        have F_low_a := G_low_a
        have F_high_a := G_high_a
        have F_firstRun_a := G_firstRun_a
        have F_kept_a := G_kept_a
        have F_keptLeft_a := GKl
        have F_keptRight_a := GKr
        have N_12 := Fr.app N_11 N_12q
        refine hst (fun _ kt => st_12.trans kt) ?_
        show G (T_12.setTop (mkF mI 88 #[.val (.ref tk), .val (.ref a), .val (.ref n), .unset] []))
        refine o_aloadN hst X_12.here hx (hb hby din1_88) (pc' := 89) rfl rfl rfl ?_
        refine o_aloadN hst X_12.here hx (hb hby din1_89) (pc' := 90) rfl rfl rfl ?_
        obtain ⟨cq_13, kq_13, q_13a, q_13b, q_13c⟩ := isOf hZ rfl E_tk
        obtain ⟨_, _, ⟨T_13, L_13, k_13, n_13⟩, -, X_13, ⟨Lc_13, hQ_13, l_13, y_13, z_13⟩, st_13⟩ := X_12.virtualBack hx (y := (⟨own_TP, "update", "(Lcom/example/tierfold/tierfold/tiered/SharedTail;)V"⟩ : MethodName)) (z := (⟨own_TP, "update", "(Lcom/example/tierfold/tierfold/tiered/SharedTail;)V"⟩ : MethodName)) hown (mvT hZ (own_w158 hw)) (mvT hZ (own_w159 hw)) (notFace_of_selects (args := #[]) (mvT hZ (own_w161 hw))) (mvT hZ (own_w161 hw)) (mvT hZ (own_w160 hw)) (by decide) (backOf (W := 0) (rmup lL Z a0 hw [] tk a  T_12.heap n0 Z0) hZ (own_w162 hw) (own_w129 hw) (by decide) (by decide)) q_13a q_13c (g := (mkF mI 90 #[.val (.ref tk), .val (.ref a), .val (.ref n), .unset] [(.ref a), (.ref tk)])) rfl (by rw [hml]; rfl) (Steps.refl _) (argsL := [(.ref a)]) (rest := []) (lenOf pd_8 rfl) rfl (by show 2 * 0 + _ ≤ _; exact Nat.le_of_eq rfl) (hb hby din1_90) (fun _ _ => ⟨rfl, rfl, (by decide : 0 + 0 ≤ _), (by decide : 0 + 0 ≤ _)⟩)
        dsimp only [Pt.U, Pt.locs, Pt.cells, Pt.slots] at X_13 l_13 y_13 z_13 st_13 hQ_13
        subst l_13 y_13 z_13
        obtain ⟨rfl, N_13q, eh_13⟩ := hQ_13
        have N_13 := Fr.app N_12 N_13q
        refine hst (fun _ kt => st_13.trans kt) ?_
        show G (T_13.setTop (mkF mI 93 #[.val (.ref tk), .val (.ref a), .val (.ref n), .unset] []))
        refine o_aloadN hst X_13.here hx (hb hby din1_93) (pc' := 94) rfl rfl rfl ?_
        exact hend (own_goRet X_13 hx Bd.returns rfl (Or.inr (Or.inr (Or.inr (Or.inr ⟨rfl, rfl, rfl⟩)))) (hb hby din1_94) Bd.notSynchronized (by rw [eh_13]; exact ⟨a, L1 ++ (a, pa, la, ga) :: La, Lb, rfl, N_13, K0, own_mk1 ⟨E_a, F_places_a, F_low_a, F_high_a, F_firstRun_a, _, F_kept_a⟩ ⟨F_keptLeft_a, F_keptRight_a⟩ (own_Tr_mono _ _ _ C_l) C_w, by simp, own_sp1 sA1 hB B1, B2⟩) (by decide) (by decide))
      ·
        refine hst (fun _ kt => XS.ifNo X_9.here hx rfl (hb hby din1_52) rfl ((if0 _ _).trans (feq hI).1) kt) ?_
        show G (T_9.setTop (mkF mI 55 #[.val (.ref tk), .val (.ref a), .val (.ref n), .unset] []))
        have hB : own_kk pn ln pa la := own_bI_ne hI
        refine o_aloadN hst X_9.here hx (hb hby din1_55) (pc' := 56) rfl rfl rfl ?_
        refine o_aloadN hst X_9.here hx (hb hby din1_56) (pc' := 57) rfl rfl rfl ?_
        refine o_aloadN hst X_9.here hx (hb hby din1_57) (pc' := 58) rfl rfl rfl ?_
        refine o_aloadN hst X_9.here hx (hb hby din1_58) (pc' := 59) rfl rfl rfl ?_
        refine o_aloadN hst X_9.here hx (hb hby din1_59) (pc' := 60) rfl rfl rfl ?_
        obtain ⟨cq_14, kq_14, q_14a, q_14b, q_14c⟩ := isOf hZ eh_9 E_tk
        obtain ⟨_, _, ⟨T_14, L_14, k_14, n_14⟩, -, X_14, ⟨Lc_14, hQ_14, l_14, y_14, z_14⟩, st_14⟩ := X_9.virtualBack hx (y := (⟨own_TP, "left", "(Lcom/example/tierfold/tierfold/tiered/SharedTail;)Lcom/example/tierfold/tierfold/tiered/SharedTail;"⟩ : MethodName)) (z := (⟨own_S1, "left", "(Lcom/example/tierfold/tierfold/tiered/SharedTail;)Lcom/example/tierfold/tierfold/tiered/SharedTail;"⟩ : MethodName)) hown (mvT hZ (own_w187 hw)) (mvT hZ (own_w188 hw)) (own_nf (y1 := (⟨own_TP, "insert", "(Lcom/example/tierfold/tierfold/tiered/SharedTail;Lcom/example/tierfold/tierfold/tiered/SharedTail;)Lcom/example/tierfold/tierfold/tiered/SharedTail;"⟩ : MethodName)) (notFace_of_selects (args := #[]) (mvT hZ (own_w128 hw))) rfl (mvT (args := #[]) hZ (own_w127 hw))) (mvT hZ (own_w189 hw)) (mvT hZ (own_w190 hw)) (by decide) (backOf (W := 3) (rmle lL Z a0 hw [] tk a vl h0 n0 Z0 hvl F_keptLeft_a) hZ (own_w191 hw) (own_w148 hw) (by decide) (by decide)) q_14a q_14c (g := (mkF mI 60 #[.val (.ref tk), .val (.ref a), .val (.ref n), .unset] [(.ref a), (.ref tk), (.ref tk), (.ref a), (.ref tk)])) rfl (by rw [hml]; rfl) (Steps.refl _) (argsL := [(.ref a)]) (rest := [(.ref tk), (.ref a), (.ref tk)]) (lenOf pd_5 rfl) rfl (by show 2 * 0 + _ ≤ _; exact Nat.le_of_eq rfl) (hb hby din1_60) (fun _ _ => ⟨rfl, eh_9, (by decide : 0 + 0 ≤ _), (by decide : 0 + 0 ≤ _)⟩)
        dsimp only [Pt.U, Pt.locs, Pt.cells, Pt.slots] at X_14 l_14 y_14 z_14 st_14 hQ_14
        subst l_14 y_14 z_14
        obtain ⟨rfl, N_14q, eh_14⟩ := hQ_14
        have N_14 := Fr.app N_9 N_14q
        refine hst (fun _ kt => st_14.trans kt) ?_
        show G (T_14.setTop (mkF mI 63 #[.val (.ref tk), .val (.ref a), .val (.ref n), .unset] [vl, (.ref tk), (.ref a), (.ref tk)]))
        refine o_aloadN hst X_14.here hx (hb hby din1_63) (pc' := 64) rfl rfl rfl ?_
        obtain ⟨cq_15, kq_15, q_15a, q_15b, q_15c⟩ := isOf hZ eh_14 E_tk
        obtain ⟨_, _, ⟨T_15, L_15, k_15, n_15⟩, -, X_15, ⟨Lc_15, hQ_15, l_15, y_15, z_15⟩, st_15⟩ := X_14.virtualBack hx (y := (⟨own_TP, "insert", "(Lcom/example/tierfold/tierfold/tiered/SharedTail;Lcom/example/tierfold/tierfold/tiered/SharedTail;)Lcom/example/tierfold/tierfold/tiered/SharedTail;"⟩ : MethodName)) (z := (⟨own_TP, "insert", "(Lcom/example/tierfold/tierfold/tiered/SharedTail;Lcom/example/tierfold/tierfold/tiered/SharedTail;)Lcom/example/tierfold/tierfold/tiered/SharedTail;"⟩ : MethodName)) hown (mvT hZ (own_w152 hw)) (mvT hZ (own_w126 hw)) (notFace_of_selects (args := #[]) (mvT hZ (own_w128 hw))) (mvT hZ (own_w128 hw)) (mvT hZ (own_w127 hw)) (by decide) (backOf (W := 2) (rmin0 lL Z a0 hw [] tk vl n L1 pn ln gn h0 n0 Z0 hvl E_tk C_l ⟨E_n, F_places_n, F_low_n, F_high_n, F_firstRun_n, _, F_kept_n⟩ ⟨F_keptLeft_n, F_keptRight_n⟩ le_n0_n dN.1 DL1 SL1 (fun x hx => B_L x (own_in_l hx)) (fun x hx => H_L x (List.mem_append.mpr (Or.inl hx)))) hZ (own_w130 hw) (own_w129 hw) (by decide) (by decide)) q_15a q_15c (g := (mkF mI 64 #[.val (.ref tk), .val (.ref a), .val (.ref n), .unset] [(.ref n), vl, (.ref tk), (.ref a), (.ref tk)])) rfl (by rw [hml]; rfl) (Steps.refl _) (argsL := [vl, (.ref n)]) (rest := [(.ref a), (.ref tk)]) (lenOf pd_10 rfl) rfl (by show 2 * 0 + _ ≤ _; exact Nat.le_of_eq rfl) (hb hby din1_64) (fun _ _ => ⟨rfl, eh_14, (by decide : 0 + 0 ≤ _), (by decide : 0 + 0 ≤ _)⟩)
        dsimp only [Pt.U, Pt.locs, Pt.cells, Pt.slots] at X_15 l_15 y_15 z_15 st_15 hQ_15
        subst l_15 y_15 z_15
        obtain ⟨wb, La, Lb, rfl, N_15q, K_15, C_w, eL, B1, B2⟩ := hQ_15
        have Z0 := Nat.le_trans Z0 K_15.1
        have Z1 := Nat.le_trans Z1 K_15.1
        have E_tk := E_tk.keep K_15
        have E_a := E_a.keep K_15
        have F_places_a := F_places_a.keep K_15 (ninS (Ne.symm ne_n_a) dA1)
        have F_low_a := F_low_a.keep K_15 (ninS (Ne.symm ne_n_a) dA1)
        have F_high_a := F_high_a.keep K_15 (ninS (Ne.symm ne_n_a) dA1)
        have F_firstRun_a := F_firstRun_a.keep K_15 (ninS (Ne.symm ne_n_a) dA1)
        have F_kept_a := F_kept_a.keep K_15 (ninS (Ne.symm ne_n_a) dA1)
        have F_keptLeft_a := F_keptLeft_a.keep K_15 (ninS (Ne.symm ne_n_a) dA1)
        have F_keptRight_a := F_keptRight_a.keep K_15 (ninS (Ne.symm ne_n_a) dA1)
        have C_r := own_Tr_keep K_15 _ _ _ C_r (own_nc dN.2.2 (fun x hx hy => d12 x hy hx))
        have K0 := K0.trans K_15 (own_subc fun x hx => own_in_l hx)
        subst eL
        have dW : a ∉ own_as (La ++ (n, pn, ln, gn) :: Lb) := own_ninM dA1 (Ne.symm ne_n_a)
        have N_15 := Fr.app N_14 N_15q
        refine hst (fun _ kt => st_15.trans kt) ?_
        show G (T_15.setTop (mkF mI 67 #[.val (.ref tk), .val (.ref a), .val (.ref n), .unset] [(.ref wb), (.ref a), (.ref tk)]))
        obtain ⟨cq_16, kq_16, q_16a, q_16b, q_16c⟩ := isOf hZ rfl E_tk
        obtain ⟨_, _, ⟨T_16, L_16, k_16, n_16⟩, -, X_16, ⟨Lc_16, hQ_16, l_16, y_16, z_16⟩, st_16⟩ := X_15.virtualBack hx (y := (⟨own_TP, "setLeft", "(Lcom/example/tierfold/tierfold/tiered/SharedTail;Lcom/example/tierfold/tierfold/tiered/SharedTail;)V"⟩ : MethodName)) (z := (⟨own_S1, "setLeft", "(Lcom/example/tierfold/tierfold/tiered/SharedTail;Lcom/example/tierfold/tierfold/tiered/SharedTail;)V"⟩ : MethodName)) hown (mvT hZ (own_w170 hw)) (mvT hZ (own_w171 hw)) (own_nf (y1 := (⟨own_TP, "insert", "(Lcom/example/tierfold/tierfold/tiered/SharedTail;Lcom/example/tierfold/tierfold/tiered/SharedTail;)Lcom/example/tierfold/tierfold/tiered/SharedTail;"⟩ : MethodName)) (notFace_of_selects (args := #[]) (mvT hZ (own_w128 hw))) rfl (mvT (args := #[]) hZ (own_w127 hw))) (mvT hZ (own_w172 hw)) (mvT hZ (own_w173 hw)) (by decide) (backOf (W := 0) (rmsl lL Z a0 hw [] tk a (.ref wb) vl vr pa la ga T_15.heap n0 Z0 rfl ⟨E_a, F_places_a, F_low_a, F_high_a, F_firstRun_a, _, F_kept_a⟩ ⟨F_keptLeft_a, F_keptRight_a⟩ le_n0_a) hZ (own_w174 hw) (own_w148 hw) (by decide) (by decide)) q_16a q_16c (g := (mkF mI 67 #[.val (.ref tk), .val (.ref a), .val (.ref n), .unset] [(.ref wb), (.ref a), (.ref tk)])) rfl (by rw [hml]; rfl) (Steps.refl _) (argsL := [(.ref a), (.ref wb)]) (rest := []) (lenOf pd_7 rfl) rfl (by show 2 * 0 + _ ≤ _; exact Nat.le_of_eq rfl) (hb hby din1_67) (fun _ _ => ⟨rfl, rfl, (by decide : 0 + 0 ≤ _), (by decide : 0 + 0 ≤ _)⟩)
        dsimp only [Pt.U, Pt.locs, Pt.cells, Pt.slots] at X_16 l_16 y_16 z_16 st_16 hQ_16
        subst l_16 y_16 z_16
        obtain ⟨rfl, N_16q, K_16, ⟨Gx, G_places_a, G_low_a, G_high_a, G_firstRun_a, zk_a, G_kept_a⟩, ⟨GKl, GKr⟩⟩ := hQ_16
        have Z0 := Nat.le_trans Z0 K_16.1
        have Z1 := Nat.le_trans Z1 K_16.1
        have E_tk := E_tk.keep K_16
        have E_a := E_a.keep K_16
        have C_r := own_Tr_keep K_16 _ _ _ C_r (own_nw dA2)
        have K0 := K0.trans K_16 (allS (Or.inl (List.mem_cons_of_mem _ own_in_m)) all0)
        have C_w := own_Tr_keep K_16 _ _ _ C_w (own_nw dW)
        have F_places_a := G_places_a
        have F_low_a := G_low_a
        have F_high_a := G_high_a
        have F_firstRun_a := G_firstRun_a
        have F_kept_a := G_kept_a
        have F_keptLeft_a := GKl
        have F_keptRight_a := GKr
        have N_16 := Fr.app N_15 N_16q
        refine hst (fun _ kt => st_16.trans kt) ?_
        show G (T_16.setTop (mkF mI 70 #[.val (.ref tk), .val (.ref a), .val (.ref n), .unset] []))
        refine o_goto hst X_16.here hx (hb hby din1_70) (by decide) (pc' := 88) (by decide) ?_
        refine o_aloadN hst X_16.here hx (hb hby din1_88) (pc' := 89) rfl rfl rfl ?_
        refine o_aloadN hst X_16.here hx (hb hby din1_89) (pc' := 90) rfl rfl rfl ?_
        obtain ⟨cq_17, kq_17, q_17a, q_17b, q_17c⟩ := isOf hZ rfl E_tk
        obtain ⟨_, _, ⟨T_17, L_17, k_17, n_17⟩, -, X_17, ⟨Lc_17, hQ_17, l_17, y_17, z_17⟩, st_17⟩ := X_16.virtualBack hx (y := (⟨own_TP, "update", "(Lcom/example/tierfold/tierfold/tiered/SharedTail;)V"⟩ : MethodName)) (z := (⟨own_TP, "update", "(Lcom/example/tierfold/tierfold/tiered/SharedTail;)V"⟩ : MethodName)) hown (mvT hZ (own_w158 hw)) (mvT hZ (own_w159 hw)) (notFace_of_selects (args := #[]) (mvT hZ (own_w161 hw))) (mvT hZ (own_w161 hw)) (mvT hZ (own_w160 hw)) (by decide) (backOf (W := 0) (rmup lL Z a0 hw [] tk a  T_16.heap n0 Z0) hZ (own_w162 hw) (own_w129 hw) (by decide) (by decide)) q_17a q_17c (g := (mkF mI 90 #[.val (.ref tk), .val (.ref a), .val (.ref n), .unset] [(.ref a), (.ref tk)])) rfl (by rw [hml]; rfl) (Steps.refl _) (argsL := [(.ref a)]) (rest := []) (lenOf pd_8 rfl) rfl (by show 2 * 0 + _ ≤ _; exact Nat.le_of_eq rfl) (hb hby din1_90) (fun _ _ => ⟨rfl, rfl, (by decide : 0 + 0 ≤ _), (by decide : 0 + 0 ≤ _)⟩)
        dsimp only [Pt.U, Pt.locs, Pt.cells, Pt.slots] at X_17 l_17 y_17 z_17 st_17 hQ_17
        subst l_17 y_17 z_17
        obtain ⟨rfl, N_17q, eh_17⟩ := hQ_17
        have N_17 := Fr.app N_16 N_17q
        refine hst (fun _ kt => st_17.trans kt) ?_
        show G (T_17.setTop (mkF mI 93 #[.val (.ref tk), .val (.ref a), .val (.ref n), .unset] []))
        refine o_aloadN hst X_17.here hx (hb hby din1_93) (pc' := 94) rfl rfl rfl ?_
        exact hend (own_goRet X_17 hx Bd.returns rfl (Or.inr (Or.inr (Or.inr (Or.inr ⟨rfl, rfl, rfl⟩)))) (hb hby din1_94) Bd.notSynchronized (by rw [eh_17]; exact ⟨a, La, Lb ++ (a, pa, la, ga) :: L2, rfl, N_17, K0, own_mk2 ⟨E_a, F_places_a, F_low_a, F_high_a, F_firstRun_a, _, F_kept_a⟩ ⟨F_keptLeft_a, F_keptRight_a⟩ C_w (own_Tr_mono _ _ _ C_r), by simp, B1, own_sp3 sA2 hB B2⟩) (by decide) (by decide))
theorem din2_0 : decode prog_159_method_7_code 0 = .ok (.aload_n 1, 1) := by decide +kernel
theorem din2_1 : decode prog_159_method_7_code 1 = .ok (.ifnonnull 5, 3) := by decide +kernel
theorem din2_4 : decode prog_159_method_7_code 4 = .ok (.aload_n 2, 1) := by decide +kernel
theorem din2_5 : decode prog_159_method_7_code 5 = .ok (.areturn, 1) := by decide +kernel
theorem din2_6 : decode prog_159_method_7_code 6 = .ok (.aload_n 2, 1) := by decide +kernel
theorem din2_7 : decode prog_159_method_7_code 7 = .ok (.invokestatic 7, 3) := by decide +kernel
theorem din2_10 : decode prog_159_method_7_code 10 = .ok (.aload_n 1, 1) := by decide +kernel
theorem din2_11 : decode prog_159_method_7_code 11 = .ok (.invokestatic 7, 3) := by decide +kernel
theorem din2_14 : decode prog_159_method_7_code 14 = .ok (.if_icmp .le 33, 3) := by decide +kernel
theorem din2_17 : decode prog_159_method_7_code 17 = .ok (.aload_n 0, 1) := by decide +kernel
theorem din2_18 : decode prog_159_method_7_code 18 = .ok (.aload_n 1, 1) := by decide +kernel
theorem din2_19 : decode prog_159_method_7_code 19 = .ok (.aload_n 2, 1) := by decide +kernel
theorem din2_20 : decode prog_159_method_7_code 20 = .ok (.invokevirtual 13, 3) := by decide +kernel
theorem din2_23 : decode prog_159_method_7_code 23 = .ok (.astore_n 3, 1) := by decide +kernel
theorem din2_24 : decode prog_159_method_7_code 24 = .ok (.aload_n 0, 1) := by decide +kernel
theorem din2_25 : decode prog_159_method_7_code 25 = .ok (.aload_n 2, 1) := by decide +kernel
theorem din2_26 : decode prog_159_method_7_code 26 = .ok (.aload_n 3, 1) := by decide +kernel
theorem din2_27 : decode prog_159_method_7_code 27 = .ok (.iconst 0, 1) := by decide +kernel
theorem din2_28 : decode prog_159_method_7_code 28 = .ok (.aaload, 1) := by decide +kernel
theorem din2_29 : decode prog_159_method_7_code 29 = .ok (.invokevirtual 17, 3) := by decide +kernel
theorem din2_32 : decode prog_159_method_7_code 32 = .ok (.aload_n 0, 1) := by decide +kernel
theorem din2_33 : decode prog_159_method_7_code 33 = .ok (.aload_n 2, 1) := by decide +kernel
theorem din2_34 : decode prog_159_method_7_code 34 = .ok (.aload_n 3, 1) := by decide +kernel
theorem din2_35 : decode prog_159_method_7_code 35 = .ok (.iconst 1, 1) := by decide +kernel
theorem din2_36 : decode prog_159_method_7_code 36 = .ok (.aaload, 1) := by decide +kernel
theorem din2_37 : decode prog_159_method_7_code 37 = .ok (.invokevirtual 21, 3) := by decide +kernel
theorem din2_40 : decode prog_159_method_7_code 40 = .ok (.aload_n 0, 1) := by decide +kernel
theorem din2_41 : decode prog_159_method_7_code 41 = .ok (.aload_n 2, 1) := by decide +kernel
theorem din2_42 : decode prog_159_method_7_code 42 = .ok (.invokevirtual 24, 3) := by decide +kernel
theorem din2_45 : decode prog_159_method_7_code 45 = .ok (.aload_n 2, 1) := by decide +kernel
theorem din2_46 : decode prog_159_method_7_code 46 = .ok (.areturn, 1) := by decide +kernel
theorem din2_47 : decode prog_159_method_7_code 47 = .ok (.aload_n 2, 1) := by decide +kernel
theorem din2_48 : decode prog_159_method_7_code 48 = .ok (.aload_n 1, 1) := by decide +kernel
theorem din2_49 : decode prog_159_method_7_code 49 = .ok (.invokestatic 28, 3) := by decide +kernel
theorem din2_52 : decode prog_159_method_7_code 52 = .ok (.ifCond .eq 21, 3) := by decide +kernel
theorem din2_55 : decode prog_159_method_7_code 55 = .ok (.aload_n 0, 1) := by decide +kernel
theorem din2_56 : decode prog_159_method_7_code 56 = .ok (.aload_n 1, 1) := by decide +kernel
theorem din2_57 : decode prog_159_method_7_code 57 = .ok (.aload_n 0, 1) := by decide +kernel
theorem din2_58 : decode prog_159_method_7_code 58 = .ok (.aload_n 0, 1) := by decide +kernel
theorem din2_59 : decode prog_159_method_7_code 59 = .ok (.aload_n 1, 1) := by decide +kernel
theorem din2_60 : decode prog_159_method_7_code 60 = .ok (.invokevirtual 32, 3) := by decide +kernel
theorem din2_63 : decode prog_159_method_7_code 63 = .ok (.aload_n 2, 1) := by decide +kernel
theorem din2_64 : decode prog_159_method_7_code 64 = .ok (.invokevirtual 36, 3) := by decide +kernel
theorem din2_67 : decode prog_159_method_7_code 67 = .ok (.invokevirtual 17, 3) := by decide +kernel
theorem din2_70 : decode prog_159_method_7_code 70 = .ok (.goto 18, 3) := by decide +kernel
theorem din2_73 : decode prog_159_method_7_code 73 = .ok (.aload_n 0, 1) := by decide +kernel
theorem din2_74 : decode prog_159_method_7_code 74 = .ok (.aload_n 1, 1) := by decide +kernel
theorem din2_75 : decode prog_159_method_7_code 75 = .ok (.aload_n 0, 1) := by decide +kernel
theorem din2_76 : decode prog_159_method_7_code 76 = .ok (.aload_n 0, 1) := by decide +kernel
theorem din2_77 : decode prog_159_method_7_code 77 = .ok (.aload_n 1, 1) := by decide +kernel
theorem din2_78 : decode prog_159_method_7_code 78 = .ok (.invokevirtual 40, 3) := by decide +kernel
theorem din2_81 : decode prog_159_method_7_code 81 = .ok (.aload_n 2, 1) := by decide +kernel
theorem din2_82 : decode prog_159_method_7_code 82 = .ok (.invokevirtual 36, 3) := by decide +kernel
theorem din2_85 : decode prog_159_method_7_code 85 = .ok (.invokevirtual 21, 3) := by decide +kernel
theorem din2_88 : decode prog_159_method_7_code 88 = .ok (.aload_n 0, 1) := by decide +kernel
theorem din2_89 : decode prog_159_method_7_code 89 = .ok (.aload_n 1, 1) := by decide +kernel
theorem din2_90 : decode prog_159_method_7_code 90 = .ok (.invokevirtual 24, 3) := by decide +kernel
theorem din2_93 : decode prog_159_method_7_code 93 = .ok (.aload_n 1, 1) := by decide +kernel
theorem din2_94 : decode prog_159_method_7_code 94 = .ok (.areturn, 1) := by decide +kernel
theorem ef_in2 (mI : MethodId) (tk : Addr) (v : Value) (n : Addr) (e_v : v.isRef = true) : entryFrame mI #[(.ref tk), v, (.ref n)] 4 = mkF mI 0 #[.val (.ref tk), .val v, .val (.ref n), .unset] [] := by rcases ref_cases e_v with rfl | ⟨_, rfl⟩ <;> first | (simp [entryFrame, mkF, argsToLocals, Value.category]; done) | rfl
theorem pn_in2 : plainName own_TP = true := by first | decide +kernel | (simp [plainName, overriddenIn]; done)
set_option maxRecDepth 65536 in
set_option maxHeartbeats 40000000 in
theorem rmin2 (lL : Launch) (Z : State) (a0 : Array Value) (hw : ∀ d ∈ tables_1, d.before a0 Z = true) (ws : List Jvm.Cond) (tk : Addr) (v : Value) (n : Addr) (Lq : List own_R) (pn : Int32) (ln : Int64) (gn : Int64) (h0 : Heap) (n0 : Nat) (Z0 : n0 ≤ h0.size) (hv : v.isRef = true) (E_tk : Exa Z h0 tk own_S1) (C_t : own_Tr Z h0 2 v Lq) (N_n : own_Nd Z h0 n pn ln gn) (L_n : own_Lk Z h0 n .null .null) (le_n0_n : n0 ≤ n) (D_n : n ∉ own_as Lq) (D_L : (own_as Lq).Pairwise (· ≠ ·)) (S_L : Lq.Pairwise own_bf) (B_L : ∀ x ∈ own_as Lq, n0 ≤ x) (H_L : ∀ x ∈ Lq, own_kk x.2.1 x.2.2.1 pn ln ∨ own_kk pn ln x.2.1 x.2.2.1) :
    MetFree lL (⟨own_TP, "insert", "(Lcom/example/tierfold/tierfold/tiered/SharedTail;Lcom/example/tierfold/tierfold/tiered/SharedTail;)Lcom/example/tierfold/tierfold/tiered/SharedTail;"⟩ : MethodName) (head1 (Jvm.Cond.code (⟨own_TP, "insert", "(Lcom/example/tierfold/tierfold/tiered/SharedTail;Lcom/example/tierfold/tierfold/tiered/SharedTail;)Lcom/example/tierfold/tierfold/tiered/SharedTail;"⟩ : MethodName) prog_159_method_7_code 4 (some (.object own_ST)) :: ws) ({ frames := 3, cells := 1, slots := 2, locals := 47 } : Room)) (fun a_ U_ => a_ = #[(.ref tk), v, (.ref n)] ∧ Z.Warmed39 U_.vm ∧ U_.heap = h0) (fun _ _ _ _ _ => True) (fun _ U_ o_ W_ => ∃ v_ L_, o_ = .returned v_ ∧ own_Qin Z 3 n pn ln gn Lq h0 n0 v_ W_.heap L_ ∧ FrameEnd U_ o_ W_ L_ ({ frames := 3, cells := 1, slots := 2, locals := 47 } : Room).cells ({ frames := 3, cells := 1, slots := 2, locals := 47 } : Room).slots) := by
  refine MetFree.of_bodySF (plainFor_of_name pn_in2) hisR ?_
  intro pP eE sS mI args below meth cC s₁ Bd hml0 hP hK
  obtain ⟨rfl, hZ, hh⟩ := hP
  have hx := Bd.exec
  have hby := Bd.bytes
  have hml : cC.maxLocals = 4 := hml0
  have hown : sS.vm.findClass own_TP = some mI.cls := by have z := findClass_of_methodNamed Bd.named; exact z
  have hnm := (name_of_methodNamed Bd.named Bd.method).1
  have X0 : Stand pP lL eE ({ frames := 3, cells := 1, slots := 2, locals := 47 } : Room) sS mI #[(.ref tk), v, (.ref n)] below meth cC s₁ [] 0 0 := Stand.of_body Bd
  have e0 : s₁.heap = h0 := by rw [← hh, Bd.state]; rfl
  have N0 := Fr.nil n0
  obtain ⟨G, hG, hst, hend⟩ := own_abs pP eE below sS (own_Qin Z 3 n pn ln gn Lq h0 n0) ({ frames := 3, cells := 1, slots := 2, locals := 47 } : Room).cells ({ frames := 3, cells := 1, slots := 2, locals := 47 } : Room).slots
  refine hG (S := s₁.setTop (entryFrame mI #[(.ref tk), v, (.ref n)] 4)) (hst (fun t_ kt_ => castTop (ef_in2 mI tk v n hv) kt_) ?_)
  have Z1 := Nat.le_refl h0.size
  obtain ⟨E_n, F_places_n, F_low_n, F_high_n, F_firstRun_n, zk_n, F_kept_n⟩ := N_n
  obtain ⟨F_keptLeft_n, F_keptRight_n⟩ := L_n
  rcases own_Tr_S C_t with ⟨rfl, rfl⟩ | ⟨a, pa, la, ga, vl, vr, L1, L2, rfl, rfl, ⟨E_a, F_places_a, F_low_a, F_high_a, F_firstRun_a, zk_a, F_kept_a⟩, ⟨F_keptLeft_a, F_keptRight_a⟩, C_l, C_r⟩
  ·
    show G (s₁.setTop (mkF mI 0 #[.val (.ref tk), .val .null, .val (.ref n), .unset] []))
    refine o_aloadN hst X0.here hx (hb hby din2_0) (pc' := 1) rfl rfl rfl ?_
    refine hst (fun _ kt => XS.ifnonnullNo X0.here hx rfl (hb hby din2_1) rfl kt) ?_
    show G (s₁.setTop (mkF mI 4 #[.val (.ref tk), .val .null, .val (.ref n), .unset] []))
    refine o_aloadN hst X0.here hx (hb hby din2_4) (pc' := 5) rfl rfl rfl ?_
    exact hend (own_goRet X0 hx Bd.returns rfl (Or.inr (Or.inr (Or.inr (Or.inr ⟨rfl, rfl, rfl⟩)))) (hb hby din2_5) Bd.notSynchronized (by rw [e0]; exact ⟨n, [], [], rfl, N0, Keep.refl h0 _, own_Tr_mk (L1 := []) ⟨E_n, F_places_n, F_low_n, F_high_n, F_firstRun_n, _, F_kept_n⟩ ⟨F_keptLeft_n, F_keptRight_n⟩ own_Tr_null own_Tr_null, rfl, (fun _ q => nomatch q), (fun _ q => nomatch q)⟩) (by decide) (by decide))
  ·
    obtain ⟨dA1, dA2, d12, DL1, DL2⟩ := own_D D_L
    obtain ⟨sA1, sA2, SL1, SL2⟩ := own_S S_L
    have dN := own_nin D_n
    have ne_n_a := dN.2.1
    have le_n0_a := B_L a own_in_m
    have hvl := own_Tr_ref C_l
    have hvr := own_Tr_ref C_r
    have K0 := Keep.refl h0 (n :: own_as (L1 ++ (a, pa, la, ga) :: L2))
    show G (s₁.setTop (mkF mI 0 #[.val (.ref tk), .val (.ref a), .val (.ref n), .unset] []))
    refine o_aloadN hst X0.here hx (hb hby din2_0) (pc' := 1) rfl rfl rfl ?_
    refine hst (fun _ kt => XS.ifnonnullYes X0.here hx rfl (pc0 := 1) (pc' := 6) rfl (hb hby din2_1) rfl (by decide) (by decide) kt) ?_
    show G (s₁.setTop (mkF mI 6 #[.val (.ref tk), .val (.ref a), .val (.ref n), .unset] []))
    refine o_aloadN hst X0.here hx (hb hby din2_6) (pc' := 7) rfl rfl rfl ?_
    obtain ⟨_, _, ⟨T_1, L_1, k_1, n_1⟩, -, X_1, ⟨Lc_1, hQ_1, l_1, y_1, z_1⟩, st_1⟩ := Jvm.LawKit.callS X0 hx (y := (⟨own_TP, "priority", "(Lcom/example/tierfold/tierfold/tiered/SharedTail;)I"⟩ : MethodName)) hown (mvT hZ (own_w134 hw)) (mvT hZ (own_w135 hw)) (mvT hZ (own_w129 hw)) (mvT hZ (own_w136 hw)) (by decide) (backOf (W := 0) (rmpr lL Z a0 hw [] n pn ln h0 n0 Z0 F_low_n F_places_n) hZ (own_w136 hw) (own_w129 hw) (by decide) (by decide)) (g := (mkF mI 7 #[.val (.ref tk), .val (.ref a), .val (.ref n), .unset] [(.ref n)])) rfl (by rw [hml]; rfl) (argsL := [(.ref n)]) (rest := []) (lenOf pd_9 rfl) rfl (by show 2 * 0 + _ ≤ _; exact Nat.le_of_eq rfl) (hb hby din2_7) (fun _ _ => ⟨rfl, e0, (by decide : 0 + 0 ≤ _), (by decide : 0 + 0 ≤ _)⟩)
    dsimp only [Pt.U, Pt.locs, Pt.cells, Pt.slots] at X_1 l_1 y_1 z_1 st_1 hQ_1
    subst l_1 y_1 z_1
    obtain ⟨rfl, N_1q, eh_1⟩ := hQ_1
    have N_1 := Fr.app N0 N_1q
    refine hst (fun _ kt => st_1 _ kt) ?_
    show G (T_1.setTop (mkF mI 10 #[.val (.ref tk), .val (.ref a), .val (.ref n), .unset] [(.int (own_pr pn ln))]))
    refine o_aloadN hst X_1.here hx (hb hby din2_10) (pc' := 11) rfl rfl rfl ?_
    obtain ⟨_, _, ⟨T_2, L_2, k_2, n_2⟩, -, X_2, ⟨Lc_2, hQ_2, l_2, y_2, z_2⟩, st_2⟩ := Jvm.LawKit.callS X_1 hx (y := (⟨own_TP, "priority", "(Lcom/example/tierfold/tierfold/tiered/SharedTail;)I"⟩ : MethodName)) hown (mvT hZ (own_w134 hw)) (mvT hZ (own_w135 hw)) (mvT hZ (own_w129 hw)) (mvT hZ (own_w136 hw)) (by decide) (backOf (W := 1) (rmpr lL Z a0 hw [] a pa la h0 n0 Z0 F_low_a F_places_a) hZ (own_w136 hw) (own_w129 hw) (by decide) (by decide)) (g := (mkF mI 11 #[.val (.ref tk), .val (.ref a), .val (.ref n), .unset] [(.ref a), (.int (own_pr pn ln))])) rfl (by rw [hml]; rfl) (argsL := [(.ref a)]) (rest := [(.int (own_pr pn ln))]) (lenOf pd_9 rfl) rfl (by show 2 * 0 + _ ≤ _; exact Nat.le_of_eq rfl) (hb hby din2_11) (fun _ _ => ⟨rfl, eh_1, (by decide : 0 + 0 ≤ _), (by decide : 0 + 0 ≤ _)⟩)
    dsimp only [Pt.U, Pt.locs, Pt.cells, Pt.slots] at X_2 l_2 y_2 z_2 st_2 hQ_2
    subst l_2 y_2 z_2
    obtain ⟨rfl, N_2q, eh_2⟩ := hQ_2
    have N_2 := Fr.app N_1 N_2q
    refine hst (fun _ kt => st_2 _ kt) ?_
    show G (T_2.setTop (mkF mI 14 #[.val (.ref tk), .val (.ref a), .val (.ref n), .unset] [(.int (own_pr pa la)), (.int (own_pr pn ln))]))
    by_cases hP : (own_pr pa la) < (own_pr pn ln)
    ·
      refine hst (fun _ kt => XS.icmpNo X_2.here hx rfl (hb hby din2_14) rfl (tlt hP).2.2.2 kt) ?_
      show G (T_2.setTop (mkF mI 17 #[.val (.ref tk), .val (.ref a), .val (.ref n), .unset] []))
      refine o_aloadN hst X_2.here hx (hb hby din2_17) (pc' := 18) rfl rfl rfl ?_
      refine o_aloadN hst X_2.here hx (hb hby din2_18) (pc' := 19) rfl rfl rfl ?_
      refine o_aloadN hst X_2.here hx (hb hby din2_19) (pc' := 20) rfl rfl rfl ?_
      obtain ⟨cq_3, q_3, q_3'⟩ := E_tk.cell
      obtain ⟨_, _, ⟨T_3, L_3, k_3, n_3⟩, -, X_3, ⟨Lc_3, hQ_3, l_3, y_3, z_3⟩, st_3⟩ := X_2.privateBack hx (y := (⟨own_TP, "split", "(Lcom/example/tierfold/tierfold/tiered/SharedTail;Lcom/example/tierfold/tierfold/tiered/SharedTail;)[Lcom/example/tierfold/tierfold/tiered/SharedTail;"⟩ : MethodName)) hown (mvT hZ (own_w163 hw)) (mvT hZ (own_w164 hw)) (own_selp (own_nf (y1 := (⟨own_TP, "insert", "(Lcom/example/tierfold/tierfold/tiered/SharedTail;Lcom/example/tierfold/tierfold/tiered/SharedTail;)Lcom/example/tierfold/tierfold/tiered/SharedTail;"⟩ : MethodName)) (notFace_of_selects (args := #[]) (mvT hZ (own_w128 hw))) rfl (mvT (args := #[]) hZ (own_w127 hw))) (Cond.privateMethod_at (mvP hZ (own_w165 hw) (args := #[]))) (mvT hZ (own_w164 hw)) (by decide)) (Cond.privateMethod_at (mvP hZ (own_w165 hw) (args := #[]))) (mvT hZ (own_w166 hw)) (by decide) (backOf (W := 0) (rmsp2 lL Z a0 hw [] tk (.ref a) n (L1 ++ (a, pa, la, ga) :: L2) pn ln h0 n0 Z0 rfl E_tk C_t F_places_n F_low_n D_n D_L S_L B_L) hZ (own_w166 hw) (own_w129 hw) (by decide) (by decide)) (g := (mkF mI 20 #[.val (.ref tk), .val (.ref a), .val (.ref n), .unset] [(.ref n), (.ref a), (.ref tk)])) rfl (by rw [hml]; rfl) (Steps.refl _) (a := tk) (by rw [eh_2]; exact q_3) q_3' (argsL := [(.ref a), (.ref n)]) (rest := []) (lenOf pd_6 rfl) rfl (by show 2 * 0 + _ ≤ _; exact Nat.le_of_eq rfl) (hb hby din2_20) (fun _ _ => ⟨rfl, eh_2, (by decide : 0 + 1 ≤ _), (by decide : 0 + 2 ≤ _)⟩)
      dsimp only [Pt.U, Pt.locs, Pt.cells, Pt.slots] at X_3 l_3 y_3 z_3 st_3 hQ_3
      subst l_3 y_3 z_3
      obtain ⟨ar, kar, w1, w2, M1, M2, rfl, N_3q, K_3, le_ar, V_ar, O_ar, C_1, C_2, eL, B1, B2⟩ := hQ_3
      have ne_n_ar : n ≠ ar := Nat.ne_of_lt (Nat.lt_of_lt_of_le E_n.lt le_ar)
      have Z0 := Nat.le_trans Z0 K_3.1
      have Z1 := Nat.le_trans Z1 K_3.1
      have E_tk := E_tk.keep K_3
      have E_n := E_n.keep K_3
      have F_places_n := F_places_n.keep K_3 D_n
      have F_low_n := F_low_n.keep K_3 D_n
      have F_high_n := F_high_n.keep K_3 D_n
      have F_firstRun_n := F_firstRun_n.keep K_3 D_n
      have F_kept_n := F_kept_n.keep K_3 D_n
      have F_keptLeft_n := F_keptLeft_n.keep K_3 D_n
      have F_keptRight_n := F_keptRight_n.keep K_3 D_n
      have K0 := K0.trans K_3 (fun x hx => Or.inl (List.mem_cons_of_mem _ hx))
      obtain ⟨dM1, dM2⟩ := own_ninE eL D_n
      have hw1 := own_Tr_ref C_1
      have hw2 := own_Tr_ref C_2
      have N_3 := Fr.app N_2 N_3q
      refine hst (fun _ kt => st_3.trans kt) ?_
      show G (T_3.setTop (mkF mI 23 #[.val (.ref tk), .val (.ref a), .val (.ref n), .unset] [(.ref ar)]))
      refine o_astoreN hst X_3.here hx (hb hby din2_23) (pc' := 24) rfl (Lt := #[.val (.ref tk), .val (.ref a), .val (.ref n), .val (.ref ar)]) rfl rfl ?_
      refine o_aloadN hst X_3.here hx (hb hby din2_24) (pc' := 25) rfl rfl rfl ?_
      refine o_aloadN hst X_3.here hx (hb hby din2_25) (pc' := 26) rfl rfl rfl ?_
      refine o_aloadN hst X_3.here hx (hb hby din2_26) (pc' := 27) rfl rfl rfl ?_
      refine o_iconst hst X_3.here hx (hb hby din2_27) (pc' := 28) rfl (z := (0 : Int32)) rfl ?_
      obtain ⟨cl_4, Ar_4, -, S_4, M_4, Hs_4, -⟩ := id V_ar
      have hin_4 : ¬ ((0 : Int32) < 0 ∨ cl_4.slots.size ≤ ((0 : Int32)).toNatClampNeg) := inb_of S_4 ⟨by decide, by decide⟩
      have hat_4 : cl_4.slots[((0 : Int32)).toNatClampNeg]? = some w1 := Has.at Hs_4 hin_4 rfl
      refine hst (X_3.aaload hx (j := (0 : Int32)) (v := w1) Ar_4.1 (State.isArrayOf_alike hZ.alike Ar_4.2.1) rfl Ar_4.2.2 hin_4 hat_4 (g := (mkF mI 28 #[.val (.ref tk), .val (.ref a), .val (.ref n), .val (.ref ar)] [(.int (0 : Int32)), (.ref ar), (.ref n), (.ref tk)])) rfl rfl (hb hby din2_28)) ?_
      show G (T_3.setTop (mkF mI 29 #[.val (.ref tk), .val (.ref a), .val (.ref n), .val (.ref ar)] [w1, (.ref n), (.ref tk)]))
      obtain ⟨cq_5, kq_5, q_5a, q_5b, q_5c⟩ := isOf hZ rfl E_tk
      obtain ⟨_, _, ⟨T_5, L_5, k_5, n_5⟩, -, X_5, ⟨Lc_5, hQ_5, l_5, y_5, z_5⟩, st_5⟩ := X_3.virtualBack hx (y := (⟨own_TP, "setLeft", "(Lcom/example/tierfold/tierfold/tiered/SharedTail;Lcom/example/tierfold/tierfold/tiered/SharedTail;)V"⟩ : MethodName)) (z := (⟨own_S1, "setLeft", "(Lcom/example/tierfold/tierfold/tiered/SharedTail;Lcom/example/tierfold/tierfold/tiered/SharedTail;)V"⟩ : MethodName)) hown (mvT hZ (own_w170 hw)) (mvT hZ (own_w171 hw)) (own_nf (y1 := (⟨own_TP, "insert", "(Lcom/example/tierfold/tierfold/tiered/SharedTail;Lcom/example/tierfold/tierfold/tiered/SharedTail;)Lcom/example/tierfold/tierfold/tiered/SharedTail;"⟩ : MethodName)) (notFace_of_selects (args := #[]) (mvT hZ (own_w128 hw))) rfl (mvT (args := #[]) hZ (own_w127 hw))) (mvT hZ (own_w172 hw)) (mvT hZ (own_w173 hw)) (by decide) (backOf (W := 0) (rmsl lL Z a0 hw [] tk n w1 .null .null pn ln gn T_3.heap n0 Z0 hw1 ⟨E_n, F_places_n, F_low_n, F_high_n, F_firstRun_n, _, F_kept_n⟩ ⟨F_keptLeft_n, F_keptRight_n⟩ le_n0_n) hZ (own_w174 hw) (own_w148 hw) (by decide) (by decide)) q_5a q_5c (g := (mkF mI 29 #[.val (.ref tk), .val (.ref a), .val (.ref n), .val (.ref ar)] [w1, (.ref n), (.ref tk)])) rfl (by rw [hml]; rfl) (Steps.refl _) (argsL := [(.ref n), w1]) (rest := []) (lenOf pd_7 rfl) rfl (by show 2 * 0 + _ ≤ _; exact Nat.le_of_eq rfl) (hb hby din2_29) (fun _ _ => ⟨rfl, rfl, (by decide : 1 + 0 ≤ _), (by decide : 2 + 0 ≤ _)⟩)
      dsimp only [Pt.U, Pt.locs, Pt.cells, Pt.slots] at X_5 l_5 y_5 z_5 st_5 hQ_5
      subst l_5 y_5 z_5
      obtain ⟨rfl, N_5q, K_5, ⟨Gx, G_places_n, G_low_n, G_high_n, G_firstRun_n, zk_n, G_kept_n⟩, ⟨GKl, GKr⟩⟩ := hQ_5
      have Z0 := Nat.le_trans Z0 K_5.1
      have Z1 := Nat.le_trans Z1 K_5.1
      have E_tk := E_tk.keep K_5
      have E_n := E_n.keep K_5
      have K0 := K0.trans K_5 (allS (Or.inl (List.mem_of_getElem? (i := 0) rfl)) all0)
      have C_1 := own_Tr_keep K_5 _ _ _ C_1 (own_nw dM1)
      have C_2 := own_Tr_keep K_5 _ _ _ C_2 (own_nw dM2)
      have V_ar := V_ar.keep K_5 (ninS (Ne.symm ne_n_ar) nin0)
      have F_places_n := G_places_n
      have F_low_n := G_low_n
      have F_high_n := G_high_n
      have F_firstRun_n := G_firstRun_n
      have F_kept_n := G_kept_n
      have F_keptLeft_n := GKl
      have F_keptRight_n := GKr
      have N_5 := Fr.app N_3 N_5q
      refine hst (fun _ kt => st_5.trans kt) ?_
      show G (T_5.setTop (mkF mI 32 #[.val (.ref tk), .val (.ref a), .val (.ref n), .val (.ref ar)] []))
      refine o_aloadN hst X_5.here hx (hb hby din2_32) (pc' := 33) rfl rfl rfl ?_
      refine o_aloadN hst X_5.here hx (hb hby din2_33) (pc' := 34) rfl rfl rfl ?_
      refine o_aloadN hst X_5.here hx (hb hby din2_34) (pc' := 35) rfl rfl rfl ?_
      refine o_iconst hst X_5.here hx (hb hby din2_35) (pc' := 36) rfl (z := (1 : Int32)) rfl ?_
      obtain ⟨cl_6, Ar_6, -, S_6, M_6, Hs_6, -⟩ := id V_ar
      have hin_6 : ¬ ((1 : Int32) < 0 ∨ cl_6.slots.size ≤ ((1 : Int32)).toNatClampNeg) := inb_of S_6 ⟨by decide, by decide⟩
      have hat_6 : cl_6.slots[((1 : Int32)).toNatClampNeg]? = some w2 := Has.at Hs_6 hin_6 rfl
      refine hst (X_5.aaload hx (j := (1 : Int32)) (v := w2) Ar_6.1 (State.isArrayOf_alike hZ.alike Ar_6.2.1) rfl Ar_6.2.2 hin_6 hat_6 (g := (mkF mI 36 #[.val (.ref tk), .val (.ref a), .val (.ref n), .val (.ref ar)] [(.int (1 : Int32)), (.ref ar), (.ref n), (.ref tk)])) rfl rfl (hb hby din2_36)) ?_
      show G (T_5.setTop (mkF mI 37 #[.val (.ref tk), .val (.ref a), .val (.ref n), .val (.ref ar)] [w2, (.ref n), (.ref tk)]))
      obtain ⟨cq_7, kq_7, q_7a, q_7b, q_7c⟩ := isOf hZ rfl E_tk
      obtain ⟨_, _, ⟨T_7, L_7, k_7, n_7⟩, -, X_7, ⟨Lc_7, hQ_7, l_7, y_7, z_7⟩, st_7⟩ := X_5.virtualBack hx (y := (⟨own_TP, "setRight", "(Lcom/example/tierfold/tierfold/tiered/SharedTail;Lcom/example/tierfold/tierfold/tiered/SharedTail;)V"⟩ : MethodName)) (z := (⟨own_S1, "setRight", "(Lcom/example/tierfold/tierfold/tiered/SharedTail;Lcom/example/tierfold/tierfold/tiered/SharedTail;)V"⟩ : MethodName)) hown (mvT hZ (own_w153 hw)) (mvT hZ (own_w154 hw)) (own_nf (y1 := (⟨own_TP, "insert", "(Lcom/example/tierfold/tierfold/tiered/SharedTail;Lcom/example/tierfold/tierfold/tiered/SharedTail;)Lcom/example/tierfold/tierfold/tiered/SharedTail;"⟩ : MethodName)) (notFace_of_selects (args := #[]) (mvT hZ (own_w128 hw))) rfl (mvT (args := #[]) hZ (own_w127 hw))) (mvT hZ (own_w155 hw)) (mvT hZ (own_w156 hw)) (by decide) (backOf (W := 0) (rmsr lL Z a0 hw [] tk n w2 w1 .null pn ln gn T_5.heap n0 Z0 hw2 ⟨E_n, F_places_n, F_low_n, F_high_n, F_firstRun_n, _, F_kept_n⟩ ⟨F_keptLeft_n, F_keptRight_n⟩ le_n0_n) hZ (own_w157 hw) (own_w148 hw) (by decide) (by decide)) q_7a q_7c (g := (mkF mI 37 #[.val (.ref tk), .val (.ref a), .val (.ref n), .val (.ref ar)] [w2, (.ref n), (.ref tk)])) rfl (by rw [hml]; rfl) (Steps.refl _) (argsL := [(.ref n), w2]) (rest := []) (lenOf pd_7 rfl) rfl (by show 2 * 0 + _ ≤ _; exact Nat.le_of_eq rfl) (hb hby din2_37) (fun _ _ => ⟨rfl, rfl, (by decide : 1 + 0 ≤ _), (by decide : 2 + 0 ≤ _)⟩)
      dsimp only [Pt.U, Pt.locs, Pt.cells, Pt.slots] at X_7 l_7 y_7 z_7 st_7 hQ_7
      subst l_7 y_7 z_7
      obtain ⟨rfl, N_7q, K_7, ⟨Gx, G_places_n, G_low_n, G_high_n, G_firstRun_n, zk_n, G_kept_n⟩, ⟨GKl, GKr⟩⟩ := hQ_7
      have Z0 := Nat.le_trans Z0 K_7.1
      have Z1 := Nat.le_trans Z1 K_7.1
      have E_tk := E_tk.keep K_7
      have E_n := E_n.keep K_7
      have K0 := K0.trans K_7 (allS (Or.inl (List.mem_of_getElem? (i := 0) rfl)) all0)
      have C_1 := own_Tr_keep K_7 _ _ _ C_1 (own_nw dM1)
      have C_2 := own_Tr_keep K_7 _ _ _ C_2 (own_nw dM2)
      have V_ar := V_ar.keep K_7 (ninS (Ne.symm ne_n_ar) nin0)
      have F_places_n := G_places_n
      have F_low_n := G_low_n
      have F_high_n := G_high_n
      have F_firstRun_n := G_firstRun_n
      have F_kept_n := G_kept_n
      have F_keptLeft_n := GKl
      have F_keptRight_n := GKr
      have N_7 := Fr.app N_5 N_7q
      refine hst (fun _ kt => st_7.trans kt) ?_
      show G (T_7.setTop (mkF mI 40 #[.val (.ref tk), .val (.ref a), .val (.ref n), .val (.ref ar)] []))
      refine o_aloadN hst X_7.here hx (hb hby din2_40) (pc' := 41) rfl rfl rfl ?_
      refine o_aloadN hst X_7.here hx (hb hby din2_41) (pc' := 42) rfl rfl rfl ?_
      obtain ⟨cq_8, kq_8, q_8a, q_8b, q_8c⟩ := isOf hZ rfl E_tk
      obtain ⟨_, _, ⟨T_8, L_8, k_8, n_8⟩, -, X_8, ⟨Lc_8, hQ_8, l_8, y_8, z_8⟩, st_8⟩ := X_7.virtualBack hx (y := (⟨own_TP, "update", "(Lcom/example/tierfold/tierfold/tiered/SharedTail;)V"⟩ : MethodName)) (z := (⟨own_TP, "update", "(Lcom/example/tierfold/tierfold/tiered/SharedTail;)V"⟩ : MethodName)) hown (mvT hZ (own_w158 hw)) (mvT hZ (own_w159 hw)) (notFace_of_selects (args := #[]) (mvT hZ (own_w161 hw))) (mvT hZ (own_w161 hw)) (mvT hZ (own_w160 hw)) (by decide) (backOf (W := 0) (rmup lL Z a0 hw [] tk n  T_7.heap n0 Z0) hZ (own_w162 hw) (own_w129 hw) (by decide) (by decide)) q_8a q_8c (g := (mkF mI 42 #[.val (.ref tk), .val (.ref a), .val (.ref n), .val (.ref ar)] [(.ref n), (.ref tk)])) rfl (by rw [hml]; rfl) (Steps.refl _) (argsL := [(.ref n)]) (rest := []) (lenOf pd_8 rfl) rfl (by show 2 * 0 + _ ≤ _; exact Nat.le_of_eq rfl) (hb hby din2_42) (fun _ _ => ⟨rfl, rfl, (by decide : 1 + 0 ≤ _), (by decide : 2 + 0 ≤ _)⟩)
      dsimp only [Pt.U, Pt.locs, Pt.cells, Pt.slots] at X_8 l_8 y_8 z_8 st_8 hQ_8
      subst l_8 y_8 z_8
      obtain ⟨rfl, N_8q, eh_8⟩ := hQ_8
      have N_8 := Fr.app N_7 N_8q
      refine hst (fun _ kt => st_8.trans kt) ?_
      show G (T_8.setTop (mkF mI 45 #[.val (.ref tk), .val (.ref a), .val (.ref n), .val (.ref ar)] []))
      refine o_aloadN hst X_8.here hx (hb hby din2_45) (pc' := 46) rfl rfl rfl ?_
      exact hend (own_goRet X_8 hx Bd.returns rfl (Or.inr (Or.inr (Or.inr (Or.inr ⟨rfl, rfl, rfl⟩)))) (hb hby din2_46) Bd.notSynchronized (by rw [eh_8]; exact ⟨n, M1, M2, rfl, N_8, K0, own_Tr_mk ⟨E_n, F_places_n, F_low_n, F_high_n, F_firstRun_n, _, F_kept_n⟩ ⟨F_keptLeft_n, F_keptRight_n⟩ C_1 C_2, eL, B1, own_gt H_L eL B2⟩) (by decide) (by decide))
    ·
      refine hst (fun _ kt => XS.icmpYes X_2.here hx rfl (pc0 := 14) (pc' := 47) rfl (hb hby din2_14) rfl (flt hP).2.2.2 (by decide) (by decide) kt) ?_
      show G (T_2.setTop (mkF mI 47 #[.val (.ref tk), .val (.ref a), .val (.ref n), .unset] []))
      refine o_aloadN hst X_2.here hx (hb hby din2_47) (pc' := 48) rfl rfl rfl ?_
      refine o_aloadN hst X_2.here hx (hb hby din2_48) (pc' := 49) rfl rfl rfl ?_
      obtain ⟨_, _, ⟨T_9, L_9, k_9, n_9⟩, -, X_9, ⟨Lc_9, hQ_9, l_9, y_9, z_9⟩, st_9⟩ := Jvm.LawKit.callS X_2 hx (y := (⟨own_TP, "before", "(Lcom/example/tierfold/tierfold/tiered/SharedTail;Lcom/example/tierfold/tierfold/tiered/SharedTail;)Z"⟩ : MethodName)) hown (mvT hZ (own_w141 hw)) (mvT hZ (own_w142 hw)) (mvT hZ (own_w129 hw)) (mvT hZ (own_w143 hw)) (by decide) (backOf (W := 0) (rmbf lL Z a0 hw [] n a pn ln pa la h0 n0 Z0 F_places_n F_low_n F_places_a F_low_a) hZ (own_w143 hw) (own_w129 hw) (by decide) (by decide)) (g := (mkF mI 49 #[.val (.ref tk), .val (.ref a), .val (.ref n), .unset] [(.ref a), (.ref n)])) rfl (by rw [hml]; rfl) (argsL := [(.ref n), (.ref a)]) (rest := []) (lenOf pd_4 rfl) rfl (by show 2 * 0 + _ ≤ _; exact Nat.le_of_eq rfl) (hb hby din2_49) (fun _ _ => ⟨rfl, eh_2, (by decide : 0 + 0 ≤ _), (by decide : 0 + 0 ≤ _)⟩)
      dsimp only [Pt.U, Pt.locs, Pt.cells, Pt.slots] at X_9 l_9 y_9 z_9 st_9 hQ_9
      subst l_9 y_9 z_9
      obtain ⟨rfl, N_9q, eh_9⟩ := hQ_9
      have N_9 := Fr.app N_2 N_9q
      refine hst (fun _ kt => st_9 _ kt) ?_
      show G (T_9.setTop (mkF mI 52 #[.val (.ref tk), .val (.ref a), .val (.ref n), .unset] [(.int (own_bI pn ln pa la))]))
      by_cases hI : (own_bI pn ln pa la) = (0 : Int32)
      ·
        refine hst (fun _ kt => XS.ifYes X_9.here hx rfl (pc0 := 52) (pc' := 73) rfl (hb hby din2_52) rfl ((if0 _ _).trans (teq hI).1) (by decide) (by decide) kt) ?_
        show G (T_9.setTop (mkF mI 73 #[.val (.ref tk), .val (.ref a), .val (.ref n), .unset] []))
        have hB : own_kk pa la pn ln := (H_L (a, pa, la, ga) (List.mem_append.mpr (Or.inr (List.mem_cons.mpr (Or.inl rfl))))).resolve_right (own_bI_eq hI)
        refine o_aloadN hst X_9.here hx (hb hby din2_73) (pc' := 74) rfl rfl rfl ?_
        refine o_aloadN hst X_9.here hx (hb hby din2_74) (pc' := 75) rfl rfl rfl ?_
        refine o_aloadN hst X_9.here hx (hb hby din2_75) (pc' := 76) rfl rfl rfl ?_
        refine o_aloadN hst X_9.here hx (hb hby din2_76) (pc' := 77) rfl rfl rfl ?_
        refine o_aloadN hst X_9.here hx (hb hby din2_77) (pc' := 78) rfl rfl rfl ?_
        obtain ⟨cq_10, kq_10, q_10a, q_10b, q_10c⟩ := isOf hZ eh_9 E_tk
        obtain ⟨_, _, ⟨T_10, L_10, k_10, n_10⟩, -, X_10, ⟨Lc_10, hQ_10, l_10, y_10, z_10⟩, st_10⟩ := X_9.virtualBack hx (y := (⟨own_TP, "right", "(Lcom/example/tierfold/tierfold/tiered/SharedTail;)Lcom/example/tierfold/tierfold/tiered/SharedTail;"⟩ : MethodName)) (z := (⟨own_S1, "right", "(Lcom/example/tierfold/tierfold/tiered/SharedTail;)Lcom/example/tierfold/tierfold/tiered/SharedTail;"⟩ : MethodName)) hown (mvT hZ (own_w144 hw)) (mvT hZ (own_w145 hw)) (own_nf (y1 := (⟨own_TP, "insert", "(Lcom/example/tierfold/tierfold/tiered/SharedTail;Lcom/example/tierfold/tierfold/tiered/SharedTail;)Lcom/example/tierfold/tierfold/tiered/SharedTail;"⟩ : MethodName)) (notFace_of_selects (args := #[]) (mvT hZ (own_w128 hw))) rfl (mvT (args := #[]) hZ (own_w127 hw))) (mvT hZ (own_w146 hw)) (mvT hZ (own_w147 hw)) (by decide) (backOf (W := 3) (rmri lL Z a0 hw [] tk a vr h0 n0 Z0 hvr F_keptRight_a) hZ (own_w149 hw) (own_w148 hw) (by decide) (by decide)) q_10a q_10c (g := (mkF mI 78 #[.val (.ref tk), .val (.ref a), .val (.ref n), .unset] [(.ref a), (.ref tk), (.ref tk), (.ref a), (.ref tk)])) rfl (by rw [hml]; rfl) (Steps.refl _) (argsL := [(.ref a)]) (rest := [(.ref tk), (.ref a), (.ref tk)]) (lenOf pd_5 rfl) rfl (by show 2 * 0 + _ ≤ _; exact Nat.le_of_eq rfl) (hb hby din2_78) (fun _ _ => ⟨rfl, eh_9, (by decide : 0 + 0 ≤ _), (by decide : 0 + 0 ≤ _)⟩)
        dsimp only [Pt.U, Pt.locs, Pt.cells, Pt.slots] at X_10 l_10 y_10 z_10 st_10 hQ_10
        subst l_10 y_10 z_10
        obtain ⟨rfl, N_10q, eh_10⟩ := hQ_10
        have N_10 := Fr.app N_9 N_10q
        refine hst (fun _ kt => st_10.trans kt) ?_
        show G (T_10.setTop (mkF mI 81 #[.val (.ref tk), .val (.ref a), .val (.ref n), .unset] [vr, (.ref tk), (.ref a), (.ref tk)]))
        refine o_aloadN hst X_10.here hx (hb hby din2_81) (pc' := 82) rfl rfl rfl ?_
        obtain ⟨cq_11, kq_11, q_11a, q_11b, q_11c⟩ := isOf hZ eh_10 E_tk
        obtain ⟨_, _, ⟨T_11, L_11, k_11, n_11⟩, -, X_11, ⟨Lc_11, hQ_11, l_11, y_11, z_11⟩, st_11⟩ := X_10.virtualBack hx (y := (⟨own_TP, "insert", "(Lcom/example/tierfold/tierfold/tiered/SharedTail;Lcom/example/tierfold/tierfold/tiered/SharedTail;)Lcom/example/tierfold/tierfold/tiered/SharedTail;"⟩ : MethodName)) (z := (⟨own_TP, "insert", "(Lcom/example/tierfold/tierfold/tiered/SharedTail;Lcom/example/tierfold/tierfold/tiered/SharedTail;)Lcom/example/tierfold/tierfold/tiered/SharedTail;"⟩ : MethodName)) hown (mvT hZ (own_w152 hw)) (mvT hZ (own_w126 hw)) (notFace_of_selects (args := #[]) (mvT hZ (own_w128 hw))) (mvT hZ (own_w128 hw)) (mvT hZ (own_w127 hw)) (by decide) (backOf (W := 2) (rmin1 lL Z a0 hw [] tk vr n L2 pn ln gn h0 n0 Z0 hvr E_tk C_r ⟨E_n, F_places_n, F_low_n, F_high_n, F_firstRun_n, _, F_kept_n⟩ ⟨F_keptLeft_n, F_keptRight_n⟩ le_n0_n dN.2.2 DL2 SL2 (fun x hx => B_L x (own_in_r hx)) (fun x hx => H_L x (List.mem_append.mpr (Or.inr (List.mem_cons.mpr (Or.inr hx)))))) hZ (own_w130 hw) (own_w129 hw) (by decide) (by decide)) q_11a q_11c (g := (mkF mI 82 #[.val (.ref tk), .val (.ref a), .val (.ref n), .unset] [(.ref n), vr, (.ref tk), (.ref a), (.ref tk)])) rfl (by rw [hml]; rfl) (Steps.refl _) (argsL := [vr, (.ref n)]) (rest := [(.ref a), (.ref tk)]) (lenOf pd_10 rfl) rfl (by show 2 * 0 + _ ≤ _; exact Nat.le_of_eq rfl) (hb hby din2_82) (fun _ _ => ⟨rfl, eh_10, (by decide : 0 + 1 ≤ _), (by decide : 0 + 2 ≤ _)⟩)
        dsimp only [Pt.U, Pt.locs, Pt.cells, Pt.slots] at X_11 l_11 y_11 z_11 st_11 hQ_11
        subst l_11 y_11 z_11
        obtain ⟨wb, La, Lb, rfl, N_11q, K_11, C_w, eL, B1, B2⟩ := hQ_11
        have Z0 := Nat.le_trans Z0 K_11.1
        have Z1 := Nat.le_trans Z1 K_11.1
        have E_tk := E_tk.keep K_11
        have E_a := E_a.keep K_11
        have F_places_a := F_places_a.keep K_11 (ninS (Ne.symm ne_n_a) dA2)
        have F_low_a := F_low_a.keep K_11 (ninS (Ne.symm ne_n_a) dA2)
        have F_high_a := F_high_a.keep K_11 (ninS (Ne.symm ne_n_a) dA2)
        have F_firstRun_a := F_firstRun_a.keep K_11 (ninS (Ne.symm ne_n_a) dA2)
        have F_kept_a := F_kept_a.keep K_11 (ninS (Ne.symm ne_n_a) dA2)
        have F_keptLeft_a := F_keptLeft_a.keep K_11 (ninS (Ne.symm ne_n_a) dA2)
        have F_keptRight_a := F_keptRight_a.keep K_11 (ninS (Ne.symm ne_n_a) dA2)
        have C_l := own_Tr_keep K_11 _ _ _ C_l (own_nc dN.1 d12)
        have K0 := K0.trans K_11 (own_subc fun x hx => own_in_r hx)
        subst eL
        have dW : a ∉ own_as (La ++ (n, pn, ln, gn) :: Lb) := own_ninM dA2 (Ne.symm ne_n_a)
        have N_11 := Fr.app N_10 N_11q
        refine hst (fun _ kt => st_11.trans kt) ?_
        show G (T_11.setTop (mkF mI 85 #[.val (.ref tk), .val (.ref a), .val (.ref n), .unset] [(.ref wb), (.ref a), (.ref tk)]))
        obtain ⟨cq_12, kq_12, q_12a, q_12b, q_12c⟩ := isOf hZ rfl E_tk
        obtain ⟨_, _, ⟨T_12, L_12, k_12, n_12⟩, -, X_12, ⟨Lc_12, hQ_12, l_12, y_12, z_12⟩, st_12⟩ := X_11.virtualBack hx (y := (⟨own_TP, "setRight", "(Lcom/example/tierfold/tierfold/tiered/SharedTail;Lcom/example/tierfold/tierfold/tiered/SharedTail;)V"⟩ : MethodName)) (z := (⟨own_S1, "setRight", "(Lcom/example/tierfold/tierfold/tiered/SharedTail;Lcom/example/tierfold/tierfold/tiered/SharedTail;)V"⟩ : MethodName)) hown (mvT hZ (own_w153 hw)) (mvT hZ (own_w154 hw)) (own_nf (y1 := (⟨own_TP, "insert", "(Lcom/example/tierfold/tierfold/tiered/SharedTail;Lcom/example/tierfold/tierfold/tiered/SharedTail;)Lcom/example/tierfold/tierfold/tiered/SharedTail;"⟩ : MethodName)) (notFace_of_selects (args := #[]) (mvT hZ (own_w128 hw))) rfl (mvT (args := #[]) hZ (own_w127 hw))) (mvT hZ (own_w155 hw)) (mvT hZ (own_w156 hw)) (by decide) (backOf (W := 0) (rmsr lL Z a0 hw [] tk a (.ref wb) vl vr pa la ga T_11.heap n0 Z0 rfl ⟨E_a, F_places_a, F_low_a, F_high_a, F_firstRun_a, _, F_kept_a⟩ ⟨F_keptLeft_a, F_keptRight_a⟩ le_n0_a) hZ (own_w157 hw) (own_w148 hw) (by decide) (by decide)) q_12a q_12c (g := (mkF mI 85 #[.val (.ref tk), .val (.ref a), .val (.ref n), .unset] [(.ref wb), (.ref a), (.ref tk)])) rfl (by rw [hml]; rfl) (Steps.refl _) (argsL := [(.ref a), (.ref wb)]) (rest := []) (lenOf pd_7 rfl) rfl (by show 2 * 0 + _ ≤ _; exact Nat.le_of_eq rfl) (hb hby din2_85) (fun _ _ => ⟨rfl, rfl, (by decide : 1 + 0 ≤ _), (by decide : 2 + 0 ≤ _)⟩)
        dsimp only [Pt.U, Pt.locs, Pt.cells, Pt.slots] at X_12 l_12 y_12 z_12 st_12 hQ_12
        subst l_12 y_12 z_12
        obtain ⟨rfl, N_12q, K_12, ⟨Gx, G_places_a, G_low_a, G_high_a, G_firstRun_a, zk_a, G_kept_a⟩, ⟨GKl, GKr⟩⟩ := hQ_12
        have Z0 := Nat.le_trans Z0 K_12.1
        have Z1 := Nat.le_trans Z1 K_12.1
        have E_tk := E_tk.keep K_12
        have E_a := E_a.keep K_12
        have C_l := own_Tr_keep K_12 _ _ _ C_l (own_nw dA1)
        have K0 := K0.trans K_12 (allS (Or.inl (List.mem_cons_of_mem _ own_in_m)) all0)
        have C_w := own_Tr_keep K_12 _ _ _ C_w (own_nw dW)
        have F_places_a := G_places_a
        have F_low_a := G_low_a
        have F_high_a := G_high_a
        have F_firstRun_a := G_firstRun_a
        have F_kept_a := G_kept_a
        have F_keptLeft_a := GKl
        have F_keptRight_a := GKr
        have N_12 := Fr.app N_11 N_12q
        refine hst (fun _ kt => st_12.trans kt) ?_
        show G (T_12.setTop (mkF mI 88 #[.val (.ref tk), .val (.ref a), .val (.ref n), .unset] []))
        refine o_aloadN hst X_12.here hx (hb hby din2_88) (pc' := 89) rfl rfl rfl ?_
        refine o_aloadN hst X_12.here hx (hb hby din2_89) (pc' := 90) rfl rfl rfl ?_
        obtain ⟨cq_13, kq_13, q_13a, q_13b, q_13c⟩ := isOf hZ rfl E_tk
        obtain ⟨_, _, ⟨T_13, L_13, k_13, n_13⟩, -, X_13, ⟨Lc_13, hQ_13, l_13, y_13, z_13⟩, st_13⟩ := X_12.virtualBack hx (y := (⟨own_TP, "update", "(Lcom/example/tierfold/tierfold/tiered/SharedTail;)V"⟩ : MethodName)) (z := (⟨own_TP, "update", "(Lcom/example/tierfold/tierfold/tiered/SharedTail;)V"⟩ : MethodName)) hown (mvT hZ (own_w158 hw)) (mvT hZ (own_w159 hw)) (notFace_of_selects (args := #[]) (mvT hZ (own_w161 hw))) (mvT hZ (own_w161 hw)) (mvT hZ (own_w160 hw)) (by decide) (backOf (W := 0) (rmup lL Z a0 hw [] tk a  T_12.heap n0 Z0) hZ (own_w162 hw) (own_w129 hw) (by decide) (by decide)) q_13a q_13c (g := (mkF mI 90 #[.val (.ref tk), .val (.ref a), .val (.ref n), .unset] [(.ref a), (.ref tk)])) rfl (by rw [hml]; rfl) (Steps.refl _) (argsL := [(.ref a)]) (rest := []) (lenOf pd_8 rfl) rfl (by show 2 * 0 + _ ≤ _; exact Nat.le_of_eq rfl) (hb hby din2_90) (fun _ _ => ⟨rfl, rfl, (by decide : 1 + 0 ≤ _), (by decide : 2 + 0 ≤ _)⟩)
        dsimp only [Pt.U, Pt.locs, Pt.cells, Pt.slots] at X_13 l_13 y_13 z_13 st_13 hQ_13
        subst l_13 y_13 z_13
        obtain ⟨rfl, N_13q, eh_13⟩ := hQ_13
        have N_13 := Fr.app N_12 N_13q
        refine hst (fun _ kt => st_13.trans kt) ?_
        show G (T_13.setTop (mkF mI 93 #[.val (.ref tk), .val (.ref a), .val (.ref n), .unset] []))
        refine o_aloadN hst X_13.here hx (hb hby din2_93) (pc' := 94) rfl rfl rfl ?_
        exact hend (own_goRet X_13 hx Bd.returns rfl (Or.inr (Or.inr (Or.inr (Or.inr ⟨rfl, rfl, rfl⟩)))) (hb hby din2_94) Bd.notSynchronized (by rw [eh_13]; exact ⟨a, L1 ++ (a, pa, la, ga) :: La, Lb, rfl, N_13, K0, own_mk1 ⟨E_a, F_places_a, F_low_a, F_high_a, F_firstRun_a, _, F_kept_a⟩ ⟨F_keptLeft_a, F_keptRight_a⟩ (own_Tr_mono _ _ _ C_l) C_w, by simp, own_sp1 sA1 hB B1, B2⟩) (by decide) (by decide))
      ·
        refine hst (fun _ kt => XS.ifNo X_9.here hx rfl (hb hby din2_52) rfl ((if0 _ _).trans (feq hI).1) kt) ?_
        show G (T_9.setTop (mkF mI 55 #[.val (.ref tk), .val (.ref a), .val (.ref n), .unset] []))
        have hB : own_kk pn ln pa la := own_bI_ne hI
        refine o_aloadN hst X_9.here hx (hb hby din2_55) (pc' := 56) rfl rfl rfl ?_
        refine o_aloadN hst X_9.here hx (hb hby din2_56) (pc' := 57) rfl rfl rfl ?_
        refine o_aloadN hst X_9.here hx (hb hby din2_57) (pc' := 58) rfl rfl rfl ?_
        refine o_aloadN hst X_9.here hx (hb hby din2_58) (pc' := 59) rfl rfl rfl ?_
        refine o_aloadN hst X_9.here hx (hb hby din2_59) (pc' := 60) rfl rfl rfl ?_
        obtain ⟨cq_14, kq_14, q_14a, q_14b, q_14c⟩ := isOf hZ eh_9 E_tk
        obtain ⟨_, _, ⟨T_14, L_14, k_14, n_14⟩, -, X_14, ⟨Lc_14, hQ_14, l_14, y_14, z_14⟩, st_14⟩ := X_9.virtualBack hx (y := (⟨own_TP, "left", "(Lcom/example/tierfold/tierfold/tiered/SharedTail;)Lcom/example/tierfold/tierfold/tiered/SharedTail;"⟩ : MethodName)) (z := (⟨own_S1, "left", "(Lcom/example/tierfold/tierfold/tiered/SharedTail;)Lcom/example/tierfold/tierfold/tiered/SharedTail;"⟩ : MethodName)) hown (mvT hZ (own_w187 hw)) (mvT hZ (own_w188 hw)) (own_nf (y1 := (⟨own_TP, "insert", "(Lcom/example/tierfold/tierfold/tiered/SharedTail;Lcom/example/tierfold/tierfold/tiered/SharedTail;)Lcom/example/tierfold/tierfold/tiered/SharedTail;"⟩ : MethodName)) (notFace_of_selects (args := #[]) (mvT hZ (own_w128 hw))) rfl (mvT (args := #[]) hZ (own_w127 hw))) (mvT hZ (own_w189 hw)) (mvT hZ (own_w190 hw)) (by decide) (backOf (W := 3) (rmle lL Z a0 hw [] tk a vl h0 n0 Z0 hvl F_keptLeft_a) hZ (own_w191 hw) (own_w148 hw) (by decide) (by decide)) q_14a q_14c (g := (mkF mI 60 #[.val (.ref tk), .val (.ref a), .val (.ref n), .unset] [(.ref a), (.ref tk), (.ref tk), (.ref a), (.ref tk)])) rfl (by rw [hml]; rfl) (Steps.refl _) (argsL := [(.ref a)]) (rest := [(.ref tk), (.ref a), (.ref tk)]) (lenOf pd_5 rfl) rfl (by show 2 * 0 + _ ≤ _; exact Nat.le_of_eq rfl) (hb hby din2_60) (fun _ _ => ⟨rfl, eh_9, (by decide : 0 + 0 ≤ _), (by decide : 0 + 0 ≤ _)⟩)
        dsimp only [Pt.U, Pt.locs, Pt.cells, Pt.slots] at X_14 l_14 y_14 z_14 st_14 hQ_14
        subst l_14 y_14 z_14
        obtain ⟨rfl, N_14q, eh_14⟩ := hQ_14
        have N_14 := Fr.app N_9 N_14q
        refine hst (fun _ kt => st_14.trans kt) ?_
        show G (T_14.setTop (mkF mI 63 #[.val (.ref tk), .val (.ref a), .val (.ref n), .unset] [vl, (.ref tk), (.ref a), (.ref tk)]))
        refine o_aloadN hst X_14.here hx (hb hby din2_63) (pc' := 64) rfl rfl rfl ?_
        obtain ⟨cq_15, kq_15, q_15a, q_15b, q_15c⟩ := isOf hZ eh_14 E_tk
        obtain ⟨_, _, ⟨T_15, L_15, k_15, n_15⟩, -, X_15, ⟨Lc_15, hQ_15, l_15, y_15, z_15⟩, st_15⟩ := X_14.virtualBack hx (y := (⟨own_TP, "insert", "(Lcom/example/tierfold/tierfold/tiered/SharedTail;Lcom/example/tierfold/tierfold/tiered/SharedTail;)Lcom/example/tierfold/tierfold/tiered/SharedTail;"⟩ : MethodName)) (z := (⟨own_TP, "insert", "(Lcom/example/tierfold/tierfold/tiered/SharedTail;Lcom/example/tierfold/tierfold/tiered/SharedTail;)Lcom/example/tierfold/tierfold/tiered/SharedTail;"⟩ : MethodName)) hown (mvT hZ (own_w152 hw)) (mvT hZ (own_w126 hw)) (notFace_of_selects (args := #[]) (mvT hZ (own_w128 hw))) (mvT hZ (own_w128 hw)) (mvT hZ (own_w127 hw)) (by decide) (backOf (W := 2) (rmin1 lL Z a0 hw [] tk vl n L1 pn ln gn h0 n0 Z0 hvl E_tk C_l ⟨E_n, F_places_n, F_low_n, F_high_n, F_firstRun_n, _, F_kept_n⟩ ⟨F_keptLeft_n, F_keptRight_n⟩ le_n0_n dN.1 DL1 SL1 (fun x hx => B_L x (own_in_l hx)) (fun x hx => H_L x (List.mem_append.mpr (Or.inl hx)))) hZ (own_w130 hw) (own_w129 hw) (by decide) (by decide)) q_15a q_15c (g := (mkF mI 64 #[.val (.ref tk), .val (.ref a), .val (.ref n), .unset] [(.ref n), vl, (.ref tk), (.ref a), (.ref tk)])) rfl (by rw [hml]; rfl) (Steps.refl _) (argsL := [vl, (.ref n)]) (rest := [(.ref a), (.ref tk)]) (lenOf pd_10 rfl) rfl (by show 2 * 0 + _ ≤ _; exact Nat.le_of_eq rfl) (hb hby din2_64) (fun _ _ => ⟨rfl, eh_14, (by decide : 0 + 1 ≤ _), (by decide : 0 + 2 ≤ _)⟩)
        dsimp only [Pt.U, Pt.locs, Pt.cells, Pt.slots] at X_15 l_15 y_15 z_15 st_15 hQ_15
        subst l_15 y_15 z_15
        obtain ⟨wb, La, Lb, rfl, N_15q, K_15, C_w, eL, B1, B2⟩ := hQ_15
        have Z0 := Nat.le_trans Z0 K_15.1
        have Z1 := Nat.le_trans Z1 K_15.1
        have E_tk := E_tk.keep K_15
        have E_a := E_a.keep K_15
        have F_places_a := F_places_a.keep K_15 (ninS (Ne.symm ne_n_a) dA1)
        have F_low_a := F_low_a.keep K_15 (ninS (Ne.symm ne_n_a) dA1)
        have F_high_a := F_high_a.keep K_15 (ninS (Ne.symm ne_n_a) dA1)
        have F_firstRun_a := F_firstRun_a.keep K_15 (ninS (Ne.symm ne_n_a) dA1)
        have F_kept_a := F_kept_a.keep K_15 (ninS (Ne.symm ne_n_a) dA1)
        have F_keptLeft_a := F_keptLeft_a.keep K_15 (ninS (Ne.symm ne_n_a) dA1)
        have F_keptRight_a := F_keptRight_a.keep K_15 (ninS (Ne.symm ne_n_a) dA1)
        have C_r := own_Tr_keep K_15 _ _ _ C_r (own_nc dN.2.2 (fun x hx hy => d12 x hy hx))
        have K0 := K0.trans K_15 (own_subc fun x hx => own_in_l hx)
        subst eL
        have dW : a ∉ own_as (La ++ (n, pn, ln, gn) :: Lb) := own_ninM dA1 (Ne.symm ne_n_a)
        have N_15 := Fr.app N_14 N_15q
        refine hst (fun _ kt => st_15.trans kt) ?_
        show G (T_15.setTop (mkF mI 67 #[.val (.ref tk), .val (.ref a), .val (.ref n), .unset] [(.ref wb), (.ref a), (.ref tk)]))
        obtain ⟨cq_16, kq_16, q_16a, q_16b, q_16c⟩ := isOf hZ rfl E_tk
        obtain ⟨_, _, ⟨T_16, L_16, k_16, n_16⟩, -, X_16, ⟨Lc_16, hQ_16, l_16, y_16, z_16⟩, st_16⟩ := X_15.virtualBack hx (y := (⟨own_TP, "setLeft", "(Lcom/example/tierfold/tierfold/tiered/SharedTail;Lcom/example/tierfold/tierfold/tiered/SharedTail;)V"⟩ : MethodName)) (z := (⟨own_S1, "setLeft", "(Lcom/example/tierfold/tierfold/tiered/SharedTail;Lcom/example/tierfold/tierfold/tiered/SharedTail;)V"⟩ : MethodName)) hown (mvT hZ (own_w170 hw)) (mvT hZ (own_w171 hw)) (own_nf (y1 := (⟨own_TP, "insert", "(Lcom/example/tierfold/tierfold/tiered/SharedTail;Lcom/example/tierfold/tierfold/tiered/SharedTail;)Lcom/example/tierfold/tierfold/tiered/SharedTail;"⟩ : MethodName)) (notFace_of_selects (args := #[]) (mvT hZ (own_w128 hw))) rfl (mvT (args := #[]) hZ (own_w127 hw))) (mvT hZ (own_w172 hw)) (mvT hZ (own_w173 hw)) (by decide) (backOf (W := 0) (rmsl lL Z a0 hw [] tk a (.ref wb) vl vr pa la ga T_15.heap n0 Z0 rfl ⟨E_a, F_places_a, F_low_a, F_high_a, F_firstRun_a, _, F_kept_a⟩ ⟨F_keptLeft_a, F_keptRight_a⟩ le_n0_a) hZ (own_w174 hw) (own_w148 hw) (by decide) (by decide)) q_16a q_16c (g := (mkF mI 67 #[.val (.ref tk), .val (.ref a), .val (.ref n), .unset] [(.ref wb), (.ref a), (.ref tk)])) rfl (by rw [hml]; rfl) (Steps.refl _) (argsL := [(.ref a), (.ref wb)]) (rest := []) (lenOf pd_7 rfl) rfl (by show 2 * 0 + _ ≤ _; exact Nat.le_of_eq rfl) (hb hby din2_67) (fun _ _ => ⟨rfl, rfl, (by decide : 1 + 0 ≤ _), (by decide : 2 + 0 ≤ _)⟩)
        dsimp only [Pt.U, Pt.locs, Pt.cells, Pt.slots] at X_16 l_16 y_16 z_16 st_16 hQ_16
        subst l_16 y_16 z_16
        obtain ⟨rfl, N_16q, K_16, ⟨Gx, G_places_a, G_low_a, G_high_a, G_firstRun_a, zk_a, G_kept_a⟩, ⟨GKl, GKr⟩⟩ := hQ_16
        have Z0 := Nat.le_trans Z0 K_16.1
        have Z1 := Nat.le_trans Z1 K_16.1
        have E_tk := E_tk.keep K_16
        have E_a := E_a.keep K_16
        have C_r := own_Tr_keep K_16 _ _ _ C_r (own_nw dA2)
        have K0 := K0.trans K_16 (allS (Or.inl (List.mem_cons_of_mem _ own_in_m)) all0)
        have C_w := own_Tr_keep K_16 _ _ _ C_w (own_nw dW)
        have F_places_a := G_places_a
        have F_low_a := G_low_a
        have F_high_a := G_high_a
        have F_firstRun_a := G_firstRun_a
        have F_kept_a := G_kept_a
        have F_keptLeft_a := GKl
        have F_keptRight_a := GKr
        have N_16 := Fr.app N_15 N_16q
        refine hst (fun _ kt => st_16.trans kt) ?_
        show G (T_16.setTop (mkF mI 70 #[.val (.ref tk), .val (.ref a), .val (.ref n), .unset] []))
        refine o_goto hst X_16.here hx (hb hby din2_70) (by decide) (pc' := 88) (by decide) ?_
        refine o_aloadN hst X_16.here hx (hb hby din2_88) (pc' := 89) rfl rfl rfl ?_
        refine o_aloadN hst X_16.here hx (hb hby din2_89) (pc' := 90) rfl rfl rfl ?_
        obtain ⟨cq_17, kq_17, q_17a, q_17b, q_17c⟩ := isOf hZ rfl E_tk
        obtain ⟨_, _, ⟨T_17, L_17, k_17, n_17⟩, -, X_17, ⟨Lc_17, hQ_17, l_17, y_17, z_17⟩, st_17⟩ := X_16.virtualBack hx (y := (⟨own_TP, "update", "(Lcom/example/tierfold/tierfold/tiered/SharedTail;)V"⟩ : MethodName)) (z := (⟨own_TP, "update", "(Lcom/example/tierfold/tierfold/tiered/SharedTail;)V"⟩ : MethodName)) hown (mvT hZ (own_w158 hw)) (mvT hZ (own_w159 hw)) (notFace_of_selects (args := #[]) (mvT hZ (own_w161 hw))) (mvT hZ (own_w161 hw)) (mvT hZ (own_w160 hw)) (by decide) (backOf (W := 0) (rmup lL Z a0 hw [] tk a  T_16.heap n0 Z0) hZ (own_w162 hw) (own_w129 hw) (by decide) (by decide)) q_17a q_17c (g := (mkF mI 90 #[.val (.ref tk), .val (.ref a), .val (.ref n), .unset] [(.ref a), (.ref tk)])) rfl (by rw [hml]; rfl) (Steps.refl _) (argsL := [(.ref a)]) (rest := []) (lenOf pd_8 rfl) rfl (by show 2 * 0 + _ ≤ _; exact Nat.le_of_eq rfl) (hb hby din2_90) (fun _ _ => ⟨rfl, rfl, (by decide : 1 + 0 ≤ _), (by decide : 2 + 0 ≤ _)⟩)
        dsimp only [Pt.U, Pt.locs, Pt.cells, Pt.slots] at X_17 l_17 y_17 z_17 st_17 hQ_17
        subst l_17 y_17 z_17
        obtain ⟨rfl, N_17q, eh_17⟩ := hQ_17
        have N_17 := Fr.app N_16 N_17q
        refine hst (fun _ kt => st_17.trans kt) ?_
        show G (T_17.setTop (mkF mI 93 #[.val (.ref tk), .val (.ref a), .val (.ref n), .unset] []))
        refine o_aloadN hst X_17.here hx (hb hby din2_93) (pc' := 94) rfl rfl rfl ?_
        exact hend (own_goRet X_17 hx Bd.returns rfl (Or.inr (Or.inr (Or.inr (Or.inr ⟨rfl, rfl, rfl⟩)))) (hb hby din2_94) Bd.notSynchronized (by rw [eh_17]; exact ⟨a, La, Lb ++ (a, pa, la, ga) :: L2, rfl, N_17, K0, own_mk2 ⟨E_a, F_places_a, F_low_a, F_high_a, F_firstRun_a, _, F_kept_a⟩ ⟨F_keptLeft_a, F_keptRight_a⟩ C_w (own_Tr_mono _ _ _ C_r), by simp, B1, own_sp3 sA2 hB B2⟩) (by decide) (by decide))
theorem dad0_0 : decode prog_150_method_3_code 0 = .ok (.new 43, 3) := by decide +kernel
theorem dad0_3 : decode prog_150_method_3_code 3 = .ok (.dup, 1) := by decide +kernel
theorem dad0_4 : decode prog_150_method_3_code 4 = .ok (.iload_n 1, 1) := by decide +kernel
theorem dad0_5 : decode prog_150_method_3_code 5 = .ok (.aload_n 2, 1) := by decide +kernel
theorem dad0_6 : decode prog_150_method_3_code 6 = .ok (.lload_n 3, 1) := by decide +kernel
theorem dad0_7 : decode prog_150_method_3_code 7 = .ok (.lload 5, 2) := by decide +kernel
theorem dad0_9 : decode prog_150_method_3_code 9 = .ok (.lload 7, 2) := by decide +kernel
theorem dad0_11 : decode prog_150_method_3_code 11 = .ok (.lload 9, 2) := by decide +kernel
theorem dad0_13 : decode prog_150_method_3_code 13 = .ok (.aload 11, 2) := by decide +kernel
theorem dad0_15 : decode prog_150_method_3_code 15 = .ok (.invokespecial 61, 3) := by decide +kernel
theorem dad0_18 : decode prog_150_method_3_code 18 = .ok (.astore 12, 2) := by decide +kernel
theorem dad0_20 : decode prog_150_method_3_code 20 = .ok (.aload_n 0, 1) := by decide +kernel
theorem dad0_21 : decode prog_150_method_3_code 21 = .ok (.getstatic 64, 3) := by decide +kernel
theorem dad0_24 : decode prog_150_method_3_code 24 = .ok (.aload_n 0, 1) := by decide +kernel
theorem dad0_25 : decode prog_150_method_3_code 25 = .ok (.getfield 38, 3) := by decide +kernel
theorem dad0_28 : decode prog_150_method_3_code 28 = .ok (.aload 12, 2) := by decide +kernel
theorem dad0_30 : decode prog_150_method_3_code 30 = .ok (.invokevirtual 68, 3) := by decide +kernel
theorem dad0_33 : decode prog_150_method_3_code 33 = .ok (.putfield 38, 3) := by decide +kernel
theorem dad0_36 : decode prog_150_method_3_code 36 = .ok (.aload 12, 2) := by decide +kernel
theorem dad0_38 : decode prog_150_method_3_code 38 = .ok (.iconst 1, 1) := by decide +kernel
theorem dad0_39 : decode prog_150_method_3_code 39 = .ok (.putfield 74, 3) := by decide +kernel
theorem dad0_42 : decode prog_150_method_3_code 42 = .ok (.aload 12, 2) := by decide +kernel
theorem dad0_44 : decode prog_150_method_3_code 44 = .ok (.getfield 77, 3) := by decide +kernel
theorem dad0_47 : decode prog_150_method_3_code 47 = .ok (.astore 13, 2) := by decide +kernel
theorem dad0_49 : decode prog_150_method_3_code 49 = .ok (.aload 13, 2) := by decide +kernel
theorem dad0_51 : decode prog_150_method_3_code 51 = .ok (.ifnull 95, 3) := by decide +kernel
theorem dad0_146 : decode prog_150_method_3_code 146 = .ok (.aload 12, 2) := by decide +kernel
theorem dad0_148 : decode prog_150_method_3_code 148 = .ok (.areturn, 1) := by decide +kernel
theorem ef_ad0 (mI : MethodId) (reg : Addr) (pq : Int32) (no : Addr) (lo : Int64) (hi : Int64) (ts : Addr) : entryFrame mI #[(.ref reg), (.int pq), (.ref no), (.long (0 : Int64)), (.long (0 : Int64)), (.long lo), (.long hi), (.ref ts)] 14 = mkF mI 0 #[.val (.ref reg), .val (.int pq), .val (.ref no), .val (.long (0 : Int64)), .second, .val (.long (0 : Int64)), .second, .val (.long lo), .second, .val (.long hi), .second, .val (.ref ts), .unset, .unset] [] := by first | (simp [entryFrame, mkF, argsToLocals, Value.category]; done) | rfl
theorem pn_ad0 : plainName own_SS = true := by first | decide +kernel | (simp [plainName, overriddenIn]; done)
set_option maxRecDepth 65536 in
set_option maxHeartbeats 40000000 in
theorem rmad0 (lL : Launch) (Z : State) (a0 : Array Value) (hw : ∀ d ∈ tables_1, d.before a0 Z = true) (ws : List Jvm.Cond) (reg : Addr) (pq : Int32) (no : Addr) (lo : Int64) (hi : Int64) (ts : Addr) (k_no : ClassId) (tk : Addr) (rv : Value) (Lq : List own_R) (h0 : Heap) (n0 : Nat) (Z0 : n0 ≤ h0.size) (F_kept_reg : Fld Z h0 reg own_SS "kept" own_dST rv) (E_reg : Exa Z h0 reg own_SS) (le_n0_reg : n0 ≤ reg) (S_k : Sta Z h0 own_SS "KEPT" own_dTP (.ref tk)) (E_tk : Exa Z h0 tk own_S1) (V_no : Arv Z h0 no k_no .int (0 : Int32) [] (.int (0 : Int32))) (C_t : own_Tr Z h0 0 rv Lq) (D_L : (own_as Lq).Pairwise (· ≠ ·)) (S_L : Lq.Pairwise own_bf) (B_L : ∀ x ∈ own_as Lq, n0 ≤ x) (H_L : ∀ x ∈ Lq, own_kk x.2.1 x.2.2.1 pq lo ∨ own_kk pq lo x.2.1 x.2.2.1) :
    MetFree lL (⟨own_SS, "add", "(I[IJJJJLcom/example/tierfold/tierfold/tiered/TailSet;)Lcom/example/tierfold/tierfold/tiered/SharedTail;"⟩ : MethodName) (head1 (Jvm.Cond.code (⟨own_SS, "add", "(I[IJJJJLcom/example/tierfold/tierfold/tiered/TailSet;)Lcom/example/tierfold/tierfold/tiered/SharedTail;"⟩ : MethodName) prog_150_method_3_code 14 (some (.object own_ST)) :: ws) ({ frames := 2, cells := 1, slots := 21, locals := 39 } : Room)) (fun a_ U_ => a_ = #[(.ref reg), (.int pq), (.ref no), (.long (0 : Int64)), (.long (0 : Int64)), (.long lo), (.long hi), (.ref ts)] ∧ Z.Warmed39 U_.vm ∧ U_.heap = h0) (fun _ _ _ _ _ => True) (fun _ U_ o_ W_ => ∃ v_ L_, o_ = .returned v_ ∧ own_Qad Z 1 reg pq lo hi Lq h0 n0 v_ W_.heap L_ ∧ FrameEnd U_ o_ W_ L_ ({ frames := 2, cells := 1, slots := 21, locals := 39 } : Room).cells ({ frames := 2, cells := 1, slots := 21, locals := 39 } : Room).slots) := by
  refine MetFree.of_bodySF (plainFor_of_name pn_ad0) hisR ?_
  intro pP eE sS mI args below meth cC s₁ Bd hml0 hP hK
  obtain ⟨rfl, hZ, hh⟩ := hP
  have hx := Bd.exec
  have hby := Bd.bytes
  have hml : cC.maxLocals = 14 := hml0
  have hown : sS.vm.findClass own_SS = some mI.cls := by have z := findClass_of_methodNamed Bd.named; exact z
  have hnm := (name_of_methodNamed Bd.named Bd.method).1
  have X0 : Stand pP lL eE ({ frames := 2, cells := 1, slots := 21, locals := 39 } : Room) sS mI #[(.ref reg), (.int pq), (.ref no), (.long (0 : Int64)), (.long (0 : Int64)), (.long lo), (.long hi), (.ref ts)] below meth cC s₁ [] 0 0 := Stand.of_body Bd
  have e0 : s₁.heap = h0 := by rw [← hh, Bd.state]; rfl
  have N0 := Fr.nil n0
  obtain ⟨G, hG, hst, hend⟩ := own_abs pP eE below sS (own_Qad Z 1 reg pq lo hi Lq h0 n0) ({ frames := 2, cells := 1, slots := 21, locals := 39 } : Room).cells ({ frames := 2, cells := 1, slots := 21, locals := 39 } : Room).slots
  refine hG (S := s₁.setTop (entryFrame mI #[(.ref reg), (.int pq), (.ref no), (.long (0 : Int64)), (.long (0 : Int64)), (.long lo), (.long hi), (.ref ts)] 14)) (hst (fun t_ kt_ => castTop (ef_ad0 mI reg pq no lo hi ts) kt_) ?_)
  have Z1 := Nat.le_refl h0.size
  have hrv := own_Tr_ref C_t
  have C_z := C_t
  have K0 := Keep.refl h0 (reg :: own_as Lq)
  show G (s₁.setTop (mkF mI 0 #[.val (.ref reg), .val (.int pq), .val (.ref no), .val (.long (0 : Int64)), .second, .val (.long (0 : Int64)), .second, .val (.long lo), .second, .val (.long hi), .second, .val (.ref ts), .unset, .unset] []))
  obtain ⟨T_1, h_1, X_1, e_1, E_1, A_1, D_1, -, st_1⟩ := newO X0 hx hZ hown (own_w98 hw) (own_w99 hw) (own_w100 hw) e0 (g := (mkF mI 0 #[.val (.ref reg), .val (.int pq), .val (.ref no), .val (.long (0 : Int64)), .second, .val (.long (0 : Int64)), .second, .val (.long lo), .second, .val (.long hi), .second, .val (.ref ts), .unset, .unset] [])) rfl (hb hby dad0_0) (by decide) (by decide)
  obtain ⟨t, g_t⟩ : ∃ z, z = h0.size := ⟨_, rfl⟩
  rw [← g_t] at A_1 D_1 st_1
  have ne_reg_t : reg ≠ t := Nat.ne_of_lt (Nat.lt_of_lt_of_le F_kept_reg.lt (Nat.le_of_eq g_t.symm))
  have ne_no_t : no ≠ t := Nat.ne_of_lt (Nat.lt_of_lt_of_le V_no.lt (Nat.le_of_eq g_t.symm))
  have le_n0_t : n0 ≤ t := Nat.le_trans Z0 (Nat.le_of_eq g_t.symm)
  have le_hh_t : h0.size ≤ t := Nat.le_trans Z1 (Nat.le_of_eq g_t.symm)
  have Z0 := Nat.le_trans Z0 E_1.1
  have Z1 := Nat.le_trans Z1 E_1.1
  have F_kept_reg := F_kept_reg.ext E_1
  have E_reg := E_reg.ext E_1
  have S_k := S_k.ext E_1
  have E_tk := E_tk.ext E_1
  have V_no := V_no.ext E_1
  have C_t := own_Tr_keep ((Keep.refl _ []).ext E_1) _ _ _ C_t (fun _ _ => nin0)
  have K0 := K0.ext E_1
  have E_t : Exa Z h_1 t own_ST := A_1
  have F_windows_t : Fld Z h_1 t own_ST "windows" "I" (.int (0 : Int32)) := D_1 (Or.inl (own_w106 hw)) (ty := .int) (by decide)
  have F_places_t : Fld Z h_1 t own_ST "places" "I" (.int (0 : Int32)) := D_1 (Or.inr (own_w108 hw)) (ty := .int) (by decide)
  have F_total_t : Fld Z h_1 t own_ST "total" "J" (.long (0 : Int64)) := D_1 (Or.inr (own_w110 hw)) (ty := .long) (by decide)
  have F_low_t : Fld Z h_1 t own_ST "low" "J" (.long (0 : Int64)) := D_1 (Or.inr (own_w112 hw)) (ty := .long) (by decide)
  have F_ownBytes_t : Fld Z h_1 t own_ST "ownBytes" "J" (.long (0 : Int64)) := D_1 (Or.inr (own_w114 hw)) (ty := .long) (by decide)
  have F_high_t : Fld Z h_1 t own_ST "high" "J" (.long (0 : Int64)) := D_1 (Or.inl (own_w116 hw)) (ty := .long) (by decide)
  have F_set_t : Fld Z h_1 t own_ST "set" own_dTS .null := D_1 (Or.inr (own_w118 hw)) (ty := (.object own_TS)) (by decide)
  have F_firstRun_t : Fld Z h_1 t own_ST "firstRun" own_dRUN .null := D_1 (Or.inr (own_w120 hw)) (ty := (.object own_RUN)) (by decide)
  have F_kept_t : Fld Z h_1 t own_ST "kept" "Z" (.int (0 : Int32)) := D_1 (Or.inl (own_w132 hw)) (ty := .boolean) (by decide)
  have F_keptRight_t : Fld Z h_1 t own_ST "keptRight" own_dST .null := D_1 (Or.inl (own_w151 hw)) (ty := (.object own_ST)) (by decide)
  have F_keptLeft_t : Fld Z h_1 t own_ST "keptLeft" own_dST .null := D_1 (Or.inl (own_w176 hw)) (ty := (.object own_ST)) (by decide)
  refine hst st_1 ?_
  show G (T_1.setTop (mkF mI 3 #[.val (.ref reg), .val (.int pq), .val (.ref no), .val (.long (0 : Int64)), .second, .val (.long (0 : Int64)), .second, .val (.long lo), .second, .val (.long hi), .second, .val (.ref ts), .unset, .unset] [(.ref t)]))
  have D_t := own_Tr_fresh C_z le_hh_t
  refine o_dup hst X_1.here hx (hb hby dad0_3) (pc' := 4) rfl rfl ?_
  refine o_iloadN hst X_1.here hx (hb hby dad0_4) (pc' := 5) rfl rfl ?_
  refine o_aloadN hst X_1.here hx (hb hby dad0_5) (pc' := 6) rfl rfl rfl ?_
  refine o_lloadN hst X_1.here hx (hb hby dad0_6) (pc' := 7) rfl rfl ?_
  refine o_lload hst X_1.here hx (hb hby dad0_7) (pc' := 9) rfl rfl ?_
  refine o_lload hst X_1.here hx (hb hby dad0_9) (pc' := 11) rfl rfl ?_
  refine o_lload hst X_1.here hx (hb hby dad0_11) (pc' := 13) rfl rfl ?_
  refine o_aload hst X_1.here hx (hb hby dad0_13) (pc' := 15) rfl rfl rfl ?_
  obtain ⟨_, _, ⟨T_2, L_2, k_2, n_2⟩, -, X_2, ⟨Lc_2, hQ_2, l_2, y_2, z_2⟩, st_2⟩ := X_1.specialBack hx (y := (⟨own_ST, "<init>", "(I[IJJJJLcom/example/tierfold/tierfold/tiered/TailSet;)V"⟩ : MethodName)) rfl hown (mvT hZ (own_w101 hw)) (mvT hZ (own_w102 hw)) (mvT hZ (own_w103 hw)) (by decide) (backOf (W := 1) (rmst lL Z a0 hw [] t pq no lo hi ts k_no h_1 n0 Z0 F_windows_t F_places_t F_total_t F_low_t F_ownBytes_t F_high_t F_set_t F_firstRun_t F_kept_t F_keptLeft_t F_keptRight_t E_t le_n0_t V_no) hZ (own_w103 hw) (own_w100 hw) (by decide) (by decide)) (g := (mkF mI 15 #[.val (.ref reg), .val (.int pq), .val (.ref no), .val (.long (0 : Int64)), .second, .val (.long (0 : Int64)), .second, .val (.long lo), .second, .val (.long hi), .second, .val (.ref ts), .unset, .unset] [(.ref ts), (.long hi), (.long lo), (.long (0 : Int64)), (.long (0 : Int64)), (.ref no), (.int pq), (.ref t), (.ref t)])) rfl (by rw [hml]; rfl) (Steps.refl _) (a := t) (argsL := [(.int pq), (.ref no), (.long (0 : Int64)), (.long (0 : Int64)), (.long lo), (.long hi), (.ref ts)]) (rest := [(.ref t)]) (lenOf pd_11 rfl) rfl (by show 2 * 0 + _ ≤ _; exact Nat.le_of_eq rfl) (hb hby dad0_15) (fun _ _ => ⟨rfl, e_1, (by decide : 1 + 0 ≤ _), (by decide : 21 + 0 ≤ _)⟩)
  dsimp only [Pt.U, Pt.locs, Pt.cells, Pt.slots] at X_2 l_2 y_2 z_2 st_2 hQ_2
  subst l_2 y_2 z_2
  obtain ⟨rfl, N_2q, K_2, N_t, L_t⟩ := hQ_2
  have S_k := own_Sta_keepL S_k K_2 (allS ⟨_, E_t⟩ all0)
  have Z0 := Nat.le_trans Z0 K_2.1
  have Z1 := Nat.le_trans Z1 K_2.1
  have F_kept_reg := F_kept_reg.keep K_2 (ninS ne_reg_t nin0)
  have E_reg := E_reg.keep K_2
  have E_tk := E_tk.keep K_2
  have C_t := own_Tr_keep K_2 _ _ _ C_t (own_nw D_t)
  have K0 := K0.trans K_2 (allS (Or.inr le_hh_t) all0)
  have E_t := E_t.keep K_2
  have N_2 := Fr.app N0 N_2q
  refine hst (fun _ kt => st_2.trans kt) ?_
  show G (T_2.setTop (mkF mI 18 #[.val (.ref reg), .val (.int pq), .val (.ref no), .val (.long (0 : Int64)), .second, .val (.long (0 : Int64)), .second, .val (.long lo), .second, .val (.long hi), .second, .val (.ref ts), .unset, .unset] [(.ref t)]))
  refine o_astore hst X_2.here hx (hb hby dad0_18) (pc' := 20) rfl (Lt := #[.val (.ref reg), .val (.int pq), .val (.ref no), .val (.long (0 : Int64)), .second, .val (.long (0 : Int64)), .second, .val (.long lo), .second, .val (.long hi), .second, .val (.ref ts), .val (.ref t), .unset]) rfl rfl ?_
  refine o_aloadN hst X_2.here hx (hb hby dad0_20) (pc' := 21) rfl rfl rfl ?_
  obtain ⟨T_3, X_3, e_3, st_3⟩ := getS2 X_2 hx hZ hown (host := "") (Or.inl (own_w121 hw)) Via.refl rfl S_k (g := (mkF mI 21 #[.val (.ref reg), .val (.int pq), .val (.ref no), .val (.long (0 : Int64)), .second, .val (.long (0 : Int64)), .second, .val (.long lo), .second, .val (.long hi), .second, .val (.ref ts), .val (.ref t), .unset] [(.ref reg)])) rfl (hb hby dad0_21)
  refine hst st_3 ?_
  show G (T_3.setTop (mkF mI 24 #[.val (.ref reg), .val (.int pq), .val (.ref no), .val (.long (0 : Int64)), .second, .val (.long (0 : Int64)), .second, .val (.long lo), .second, .val (.long hi), .second, .val (.ref ts), .val (.ref t), .unset] [(.ref tk), (.ref reg)]))
  refine o_aloadN hst X_3.here hx (hb hby dad0_24) (pc' := 25) rfl rfl rfl ?_
  obtain ⟨T_4, X_4, e_4, st_4⟩ := getF X_3 hx hZ hown (host := "") (Or.inl (own_w123 hw)) Via.refl e_3 F_kept_reg (g := (mkF mI 25 #[.val (.ref reg), .val (.int pq), .val (.ref no), .val (.long (0 : Int64)), .second, .val (.long (0 : Int64)), .second, .val (.long lo), .second, .val (.long hi), .second, .val (.ref ts), .val (.ref t), .unset] [(.ref reg), (.ref tk), (.ref reg)])) rfl rfl (hb hby dad0_25)
  refine hst st_4 ?_
  show G (T_4.setTop (mkF mI 28 #[.val (.ref reg), .val (.int pq), .val (.ref no), .val (.long (0 : Int64)), .second, .val (.long (0 : Int64)), .second, .val (.long lo), .second, .val (.long hi), .second, .val (.ref ts), .val (.ref t), .unset] [rv, (.ref tk), (.ref reg)]))
  refine o_aload hst X_4.here hx (hb hby dad0_28) (pc' := 30) rfl rfl rfl ?_
  obtain ⟨cq_5, kq_5, q_5a, q_5b, q_5c⟩ := isOf hZ e_4 E_tk
  obtain ⟨_, _, ⟨T_5, L_5, k_5, n_5⟩, -, X_5, ⟨Lc_5, hQ_5, l_5, y_5, z_5⟩, st_5⟩ := X_4.virtualBack hx (y := (⟨own_TP, "insert", "(Lcom/example/tierfold/tierfold/tiered/SharedTail;Lcom/example/tierfold/tierfold/tiered/SharedTail;)Lcom/example/tierfold/tierfold/tiered/SharedTail;"⟩ : MethodName)) (z := (⟨own_TP, "insert", "(Lcom/example/tierfold/tierfold/tiered/SharedTail;Lcom/example/tierfold/tierfold/tiered/SharedTail;)Lcom/example/tierfold/tierfold/tiered/SharedTail;"⟩ : MethodName)) hown (mvT hZ (own_w125 hw)) (mvT hZ (own_w126 hw)) (notFace_of_selects (args := #[]) (mvT hZ (own_w128 hw))) (mvT hZ (own_w128 hw)) (mvT hZ (own_w127 hw)) (by decide) (backOf (W := 1) (rmin0 lL Z a0 hw [] tk rv t Lq pq lo hi T_2.heap n0 Z0 hrv E_tk C_t N_t L_t le_n0_t D_t D_L S_L B_L H_L) hZ (own_w130 hw) (own_w129 hw) (by decide) (by decide)) q_5a q_5c (g := (mkF mI 30 #[.val (.ref reg), .val (.int pq), .val (.ref no), .val (.long (0 : Int64)), .second, .val (.long (0 : Int64)), .second, .val (.long lo), .second, .val (.long hi), .second, .val (.ref ts), .val (.ref t), .unset] [(.ref t), rv, (.ref tk), (.ref reg)])) rfl (by rw [hml]; rfl) (Steps.refl _) (argsL := [rv, (.ref t)]) (rest := [(.ref reg)]) (lenOf pd_10 rfl) rfl (by show 2 * 0 + _ ≤ _; exact Nat.le_of_eq rfl) (hb hby dad0_30) (fun _ _ => ⟨rfl, e_4, (by decide : 1 + 0 ≤ _), (by decide : 21 + 0 ≤ _)⟩)
  dsimp only [Pt.U, Pt.locs, Pt.cells, Pt.slots] at X_5 l_5 y_5 z_5 st_5 hQ_5
  subst l_5 y_5 z_5
  obtain ⟨rb, La, Lb, rfl, N_5q, K_5, C_w, eL, B1, B2⟩ := hQ_5
  have dR := own_ninX E_reg C_t (by decide)
  have Z0 := Nat.le_trans Z0 K_5.1
  have Z1 := Nat.le_trans Z1 K_5.1
  have F_kept_reg := F_kept_reg.keep K_5 (ninS ne_reg_t dR)
  have E_reg := E_reg.keep K_5
  have K0 := K0.trans K_5 (allS (Or.inr le_hh_t) (fun x hx => Or.inl (List.mem_cons_of_mem _ hx)))
  obtain ⟨E_t, -, -, -, F_firstRun_t, zk_t, F_kept_t⟩ := own_Tr_nd _ _ _ C_w (t, pq, lo, hi) (List.mem_append.mpr (Or.inr (List.mem_cons.mpr (Or.inl rfl))))
  have E_t : Exa Z T_5.heap t own_ST := E_t
  have F_firstRun_t : Fld Z T_5.heap t own_ST "firstRun" own_dRUN .null := F_firstRun_t
  have F_kept_t : Fld Z T_5.heap t own_ST "kept" "Z" zk_t := F_kept_t
  have hsl : own_Sl Z := ⟨slot_ne (Or.inr (own_w108 hw)) (Or.inl (own_w132 hw)) (by decide) (t := .int) (t' := .boolean) (by decide) (by decide), slot_ne (Or.inr (own_w112 hw)) (Or.inl (own_w132 hw)) (by decide) (t := .long) (t' := .boolean) (by decide) (by decide), slot_ne (Or.inl (own_w116 hw)) (Or.inl (own_w132 hw)) (by decide) (t := .long) (t' := .boolean) (by decide) (by decide), slot_ne (Or.inr (own_w120 hw)) (Or.inl (own_w132 hw)) (by decide) (t := (.object own_RUN)) (t' := .boolean) (by decide) (by decide), slot_ne (Or.inl (own_w176 hw)) (Or.inl (own_w132 hw)) (by decide) (t := (.object own_ST)) (t' := .boolean) (by decide) (by decide), slot_ne (Or.inl (own_w151 hw)) (Or.inl (own_w132 hw)) (by decide) (t := (.object own_ST)) (t' := .boolean) (by decide) (by decide)⟩
  have dRw : reg ∉ own_as (La ++ (t, pq, lo, hi) :: Lb) := own_ninX E_reg C_w (by decide)
  have N_5 := Fr.app N_2 N_5q
  refine hst (fun _ kt => st_5.trans kt) ?_
  show G (T_5.setTop (mkF mI 33 #[.val (.ref reg), .val (.int pq), .val (.ref no), .val (.long (0 : Int64)), .second, .val (.long (0 : Int64)), .second, .val (.long lo), .second, .val (.long hi), .second, .val (.ref ts), .val (.ref t), .unset] [(.ref rb), (.ref reg)]))
  obtain ⟨T_6, h_6, X_6, e_6, W_6, st_6⟩ := putF X_5 hx hZ hown (host := "") (Or.inl (own_w123 hw)) Via.refl rfl F_kept_reg E_reg (Or.inl (own_w124 hw)) (own_w14 hw) (ty := (.object own_ST)) (by decide) rfl rfl (g := (mkF mI 33 #[.val (.ref reg), .val (.int pq), .val (.ref no), .val (.long (0 : Int64)), .second, .val (.long (0 : Int64)), .second, .val (.long lo), .second, .val (.long hi), .second, .val (.ref ts), .val (.ref t), .unset] [(.ref rb), (.ref reg)])) rfl rfl (hb hby dad0_33)
  have Z0 := Nat.le_trans Z0 (Keep.of_wr W_6).1
  have Z1 := Nat.le_trans Z1 (Keep.of_wr W_6).1
  have F_kept_reg := F_kept_reg.same W_6
  have E_reg := E_reg.wr W_6
  have K0 := K0.wr W_6 (Or.inl (List.mem_of_getElem? (i := 0) rfl))
  have E_t := E_t.wr W_6
  have F_firstRun_t := F_firstRun_t.other W_6 (Or.inl (Ne.symm ne_reg_t))
  have F_kept_t := F_kept_t.other W_6 (Or.inl (Ne.symm ne_reg_t))
  have C_w := own_Tr_keep (Keep.of_wr W_6) _ _ _ C_w (own_nw dRw)
  have N_6 := Fr.snoc X_6 N_5 le_n0_reg
  refine hst st_6 ?_
  show G (T_6.setTop (mkF mI 36 #[.val (.ref reg), .val (.int pq), .val (.ref no), .val (.long (0 : Int64)), .second, .val (.long (0 : Int64)), .second, .val (.long lo), .second, .val (.long hi), .second, .val (.ref ts), .val (.ref t), .unset] []))
  refine o_aload hst X_6.here hx (hb hby dad0_36) (pc' := 38) rfl rfl rfl ?_
  refine o_iconst hst X_6.here hx (hb hby dad0_38) (pc' := 39) rfl (z := (1 : Int32)) rfl ?_
  obtain ⟨T_7, h_7, X_7, e_7, W_7, st_7⟩ := putFN X_6 hx hZ hown (own_w131 hw) Via.refl e_6 F_kept_t E_t (Or.inl (own_w132 hw)) (own_w99 hw) (ty := .boolean) (v' := (.int (1 : Int32))) (by decide) rfl rfl (g := (mkF mI 39 #[.val (.ref reg), .val (.int pq), .val (.ref no), .val (.long (0 : Int64)), .second, .val (.long (0 : Int64)), .second, .val (.long lo), .second, .val (.long hi), .second, .val (.ref ts), .val (.ref t), .unset] [(.int (1 : Int32)), (.ref t)])) rfl rfl (hb hby dad0_39)
  have Z0 := Nat.le_trans Z0 (Keep.of_wr W_7).1
  have Z1 := Nat.le_trans Z1 (Keep.of_wr W_7).1
  have F_kept_reg := F_kept_reg.other W_7 (Or.inl ne_reg_t)
  have E_reg := E_reg.wr W_7
  have K0 := K0.wr W_7 (Or.inr le_hh_t)
  have E_t := E_t.wr W_7
  have F_firstRun_t := F_firstRun_t.other W_7 (Or.inr (slot_ne (Or.inr (own_w120 hw)) (Or.inl (own_w132 hw)) (by decide) (t := (.object own_RUN)) (t' := .boolean) (by decide) (by decide)))
  have F_kept_t := F_kept_t.same W_7
  have C_w := own_Tr_wrK W_7 hsl _ _ _ C_w
  have N_7 := Fr.snoc X_7 N_6 le_n0_t
  refine hst st_7 ?_
  show G (T_7.setTop (mkF mI 42 #[.val (.ref reg), .val (.int pq), .val (.ref no), .val (.long (0 : Int64)), .second, .val (.long (0 : Int64)), .second, .val (.long lo), .second, .val (.long hi), .second, .val (.ref ts), .val (.ref t), .unset] []))
  refine o_aload hst X_7.here hx (hb hby dad0_42) (pc' := 44) rfl rfl rfl ?_
  obtain ⟨T_8, X_8, e_8, st_8⟩ := getF X_7 hx hZ hown (host := "") (Or.inl (own_w133 hw)) Via.refl e_7 F_firstRun_t (g := (mkF mI 44 #[.val (.ref reg), .val (.int pq), .val (.ref no), .val (.long (0 : Int64)), .second, .val (.long (0 : Int64)), .second, .val (.long lo), .second, .val (.long hi), .second, .val (.ref ts), .val (.ref t), .unset] [(.ref t)])) rfl rfl (hb hby dad0_44)
  refine hst st_8 ?_
  show G (T_8.setTop (mkF mI 47 #[.val (.ref reg), .val (.int pq), .val (.ref no), .val (.long (0 : Int64)), .second, .val (.long (0 : Int64)), .second, .val (.long lo), .second, .val (.long hi), .second, .val (.ref ts), .val (.ref t), .unset] [.null]))
  refine o_astore hst X_8.here hx (hb hby dad0_47) (pc' := 49) rfl (Lt := #[.val (.ref reg), .val (.int pq), .val (.ref no), .val (.long (0 : Int64)), .second, .val (.long (0 : Int64)), .second, .val (.long lo), .second, .val (.long hi), .second, .val (.ref ts), .val (.ref t), .val .null]) rfl rfl ?_
  refine o_aload hst X_8.here hx (hb hby dad0_49) (pc' := 51) rfl rfl rfl ?_
  refine hst (fun _ kt => XS.ifnullYes X_8.here hx rfl (pc0 := 51) (pc' := 146) rfl (hb hby dad0_51) rfl (by decide) (by decide) kt) ?_
  show G (T_8.setTop (mkF mI 146 #[.val (.ref reg), .val (.int pq), .val (.ref no), .val (.long (0 : Int64)), .second, .val (.long (0 : Int64)), .second, .val (.long lo), .second, .val (.long hi), .second, .val (.ref ts), .val (.ref t), .val .null] []))
  refine o_aload hst X_8.here hx (hb hby dad0_146) (pc' := 148) rfl rfl rfl ?_
  exact hend (own_goRet X_8 hx Bd.returns rfl (Or.inr (Or.inr (Or.inr (Or.inr ⟨rfl, rfl, rfl⟩)))) (hb hby dad0_148) Bd.notSynchronized (by rw [e_8]; exact ⟨t, rb, La, Lb, rfl, N_7, K0, le_hh_t, F_kept_reg, C_w, eL, B1, B2⟩) (by decide) (by decide))
theorem dad1_0 : decode prog_150_method_3_code 0 = .ok (.new 43, 3) := by decide +kernel
theorem dad1_3 : decode prog_150_method_3_code 3 = .ok (.dup, 1) := by decide +kernel
theorem dad1_4 : decode prog_150_method_3_code 4 = .ok (.iload_n 1, 1) := by decide +kernel
theorem dad1_5 : decode prog_150_method_3_code 5 = .ok (.aload_n 2, 1) := by decide +kernel
theorem dad1_6 : decode prog_150_method_3_code 6 = .ok (.lload_n 3, 1) := by decide +kernel
theorem dad1_7 : decode prog_150_method_3_code 7 = .ok (.lload 5, 2) := by decide +kernel
theorem dad1_9 : decode prog_150_method_3_code 9 = .ok (.lload 7, 2) := by decide +kernel
theorem dad1_11 : decode prog_150_method_3_code 11 = .ok (.lload 9, 2) := by decide +kernel
theorem dad1_13 : decode prog_150_method_3_code 13 = .ok (.aload 11, 2) := by decide +kernel
theorem dad1_15 : decode prog_150_method_3_code 15 = .ok (.invokespecial 61, 3) := by decide +kernel
theorem dad1_18 : decode prog_150_method_3_code 18 = .ok (.astore 12, 2) := by decide +kernel
theorem dad1_20 : decode prog_150_method_3_code 20 = .ok (.aload_n 0, 1) := by decide +kernel
theorem dad1_21 : decode prog_150_method_3_code 21 = .ok (.getstatic 64, 3) := by decide +kernel
theorem dad1_24 : decode prog_150_method_3_code 24 = .ok (.aload_n 0, 1) := by decide +kernel
theorem dad1_25 : decode prog_150_method_3_code 25 = .ok (.getfield 38, 3) := by decide +kernel
theorem dad1_28 : decode prog_150_method_3_code 28 = .ok (.aload 12, 2) := by decide +kernel
theorem dad1_30 : decode prog_150_method_3_code 30 = .ok (.invokevirtual 68, 3) := by decide +kernel
theorem dad1_33 : decode prog_150_method_3_code 33 = .ok (.putfield 38, 3) := by decide +kernel
theorem dad1_36 : decode prog_150_method_3_code 36 = .ok (.aload 12, 2) := by decide +kernel
theorem dad1_38 : decode prog_150_method_3_code 38 = .ok (.iconst 1, 1) := by decide +kernel
theorem dad1_39 : decode prog_150_method_3_code 39 = .ok (.putfield 74, 3) := by decide +kernel
theorem dad1_42 : decode prog_150_method_3_code 42 = .ok (.aload 12, 2) := by decide +kernel
theorem dad1_44 : decode prog_150_method_3_code 44 = .ok (.getfield 77, 3) := by decide +kernel
theorem dad1_47 : decode prog_150_method_3_code 47 = .ok (.astore 13, 2) := by decide +kernel
theorem dad1_49 : decode prog_150_method_3_code 49 = .ok (.aload 13, 2) := by decide +kernel
theorem dad1_51 : decode prog_150_method_3_code 51 = .ok (.ifnull 95, 3) := by decide +kernel
theorem dad1_146 : decode prog_150_method_3_code 146 = .ok (.aload 12, 2) := by decide +kernel
theorem dad1_148 : decode prog_150_method_3_code 148 = .ok (.areturn, 1) := by decide +kernel
theorem ef_ad1 (mI : MethodId) (reg : Addr) (pq : Int32) (no : Addr) (lo : Int64) (hi : Int64) (ts : Addr) : entryFrame mI #[(.ref reg), (.int pq), (.ref no), (.long (0 : Int64)), (.long (0 : Int64)), (.long lo), (.long hi), (.ref ts)] 14 = mkF mI 0 #[.val (.ref reg), .val (.int pq), .val (.ref no), .val (.long (0 : Int64)), .second, .val (.long (0 : Int64)), .second, .val (.long lo), .second, .val (.long hi), .second, .val (.ref ts), .unset, .unset] [] := by first | (simp [entryFrame, mkF, argsToLocals, Value.category]; done) | rfl
theorem pn_ad1 : plainName own_SS = true := by first | decide +kernel | (simp [plainName, overriddenIn]; done)
set_option maxRecDepth 65536 in
set_option maxHeartbeats 40000000 in
theorem rmad1 (lL : Launch) (Z : State) (a0 : Array Value) (hw : ∀ d ∈ tables_1, d.before a0 Z = true) (ws : List Jvm.Cond) (reg : Addr) (pq : Int32) (no : Addr) (lo : Int64) (hi : Int64) (ts : Addr) (k_no : ClassId) (tk : Addr) (rv : Value) (Lq : List own_R) (h0 : Heap) (n0 : Nat) (Z0 : n0 ≤ h0.size) (F_kept_reg : Fld Z h0 reg own_SS "kept" own_dST rv) (E_reg : Exa Z h0 reg own_SS) (le_n0_reg : n0 ≤ reg) (S_k : Sta Z h0 own_SS "KEPT" own_dTP (.ref tk)) (E_tk : Exa Z h0 tk own_S1) (V_no : Arv Z h0 no k_no .int (0 : Int32) [] (.int (0 : Int32))) (C_t : own_Tr Z h0 1 rv Lq) (D_L : (own_as Lq).Pairwise (· ≠ ·)) (S_L : Lq.Pairwise own_bf) (B_L : ∀ x ∈ own_as Lq, n0 ≤ x) (H_L : ∀ x ∈ Lq, own_kk x.2.1 x.2.2.1 pq lo ∨ own_kk pq lo x.2.1 x.2.2.1) :
    MetFree lL (⟨own_SS, "add", "(I[IJJJJLcom/example/tierfold/tierfold/tiered/TailSet;)Lcom/example/tierfold/tierfold/tiered/SharedTail;"⟩ : MethodName) (head1 (Jvm.Cond.code (⟨own_SS, "add", "(I[IJJJJLcom/example/tierfold/tierfold/tiered/TailSet;)Lcom/example/tierfold/tierfold/tiered/SharedTail;"⟩ : MethodName) prog_150_method_3_code 14 (some (.object own_ST)) :: ws) ({ frames := 3, cells := 2, slots := 23, locals := 46 } : Room)) (fun a_ U_ => a_ = #[(.ref reg), (.int pq), (.ref no), (.long (0 : Int64)), (.long (0 : Int64)), (.long lo), (.long hi), (.ref ts)] ∧ Z.Warmed39 U_.vm ∧ U_.heap = h0) (fun _ _ _ _ _ => True) (fun _ U_ o_ W_ => ∃ v_ L_, o_ = .returned v_ ∧ own_Qad Z 2 reg pq lo hi Lq h0 n0 v_ W_.heap L_ ∧ FrameEnd U_ o_ W_ L_ ({ frames := 3, cells := 2, slots := 23, locals := 46 } : Room).cells ({ frames := 3, cells := 2, slots := 23, locals := 46 } : Room).slots) := by
  refine MetFree.of_bodySF (plainFor_of_name pn_ad1) hisR ?_
  intro pP eE sS mI args below meth cC s₁ Bd hml0 hP hK
  obtain ⟨rfl, hZ, hh⟩ := hP
  have hx := Bd.exec
  have hby := Bd.bytes
  have hml : cC.maxLocals = 14 := hml0
  have hown : sS.vm.findClass own_SS = some mI.cls := by have z := findClass_of_methodNamed Bd.named; exact z
  have hnm := (name_of_methodNamed Bd.named Bd.method).1
  have X0 : Stand pP lL eE ({ frames := 3, cells := 2, slots := 23, locals := 46 } : Room) sS mI #[(.ref reg), (.int pq), (.ref no), (.long (0 : Int64)), (.long (0 : Int64)), (.long lo), (.long hi), (.ref ts)] below meth cC s₁ [] 0 0 := Stand.of_body Bd
  have e0 : s₁.heap = h0 := by rw [← hh, Bd.state]; rfl
  have N0 := Fr.nil n0
  obtain ⟨G, hG, hst, hend⟩ := own_abs pP eE below sS (own_Qad Z 2 reg pq lo hi Lq h0 n0) ({ frames := 3, cells := 2, slots := 23, locals := 46 } : Room).cells ({ frames := 3, cells := 2, slots := 23, locals := 46 } : Room).slots
  refine hG (S := s₁.setTop (entryFrame mI #[(.ref reg), (.int pq), (.ref no), (.long (0 : Int64)), (.long (0 : Int64)), (.long lo), (.long hi), (.ref ts)] 14)) (hst (fun t_ kt_ => castTop (ef_ad1 mI reg pq no lo hi ts) kt_) ?_)
  have Z1 := Nat.le_refl h0.size
  have hrv := own_Tr_ref C_t
  have C_z := C_t
  have K0 := Keep.refl h0 (reg :: own_as Lq)
  show G (s₁.setTop (mkF mI 0 #[.val (.ref reg), .val (.int pq), .val (.ref no), .val (.long (0 : Int64)), .second, .val (.long (0 : Int64)), .second, .val (.long lo), .second, .val (.long hi), .second, .val (.ref ts), .unset, .unset] []))
  obtain ⟨T_1, h_1, X_1, e_1, E_1, A_1, D_1, -, st_1⟩ := newO X0 hx hZ hown (own_w98 hw) (own_w99 hw) (own_w100 hw) e0 (g := (mkF mI 0 #[.val (.ref reg), .val (.int pq), .val (.ref no), .val (.long (0 : Int64)), .second, .val (.long (0 : Int64)), .second, .val (.long lo), .second, .val (.long hi), .second, .val (.ref ts), .unset, .unset] [])) rfl (hb hby dad1_0) (by decide) (by decide)
  obtain ⟨t, g_t⟩ : ∃ z, z = h0.size := ⟨_, rfl⟩
  rw [← g_t] at A_1 D_1 st_1
  have ne_reg_t : reg ≠ t := Nat.ne_of_lt (Nat.lt_of_lt_of_le F_kept_reg.lt (Nat.le_of_eq g_t.symm))
  have ne_no_t : no ≠ t := Nat.ne_of_lt (Nat.lt_of_lt_of_le V_no.lt (Nat.le_of_eq g_t.symm))
  have le_n0_t : n0 ≤ t := Nat.le_trans Z0 (Nat.le_of_eq g_t.symm)
  have le_hh_t : h0.size ≤ t := Nat.le_trans Z1 (Nat.le_of_eq g_t.symm)
  have Z0 := Nat.le_trans Z0 E_1.1
  have Z1 := Nat.le_trans Z1 E_1.1
  have F_kept_reg := F_kept_reg.ext E_1
  have E_reg := E_reg.ext E_1
  have S_k := S_k.ext E_1
  have E_tk := E_tk.ext E_1
  have V_no := V_no.ext E_1
  have C_t := own_Tr_keep ((Keep.refl _ []).ext E_1) _ _ _ C_t (fun _ _ => nin0)
  have K0 := K0.ext E_1
  have E_t : Exa Z h_1 t own_ST := A_1
  have F_windows_t : Fld Z h_1 t own_ST "windows" "I" (.int (0 : Int32)) := D_1 (Or.inl (own_w106 hw)) (ty := .int) (by decide)
  have F_places_t : Fld Z h_1 t own_ST "places" "I" (.int (0 : Int32)) := D_1 (Or.inr (own_w108 hw)) (ty := .int) (by decide)
  have F_total_t : Fld Z h_1 t own_ST "total" "J" (.long (0 : Int64)) := D_1 (Or.inr (own_w110 hw)) (ty := .long) (by decide)
  have F_low_t : Fld Z h_1 t own_ST "low" "J" (.long (0 : Int64)) := D_1 (Or.inr (own_w112 hw)) (ty := .long) (by decide)
  have F_ownBytes_t : Fld Z h_1 t own_ST "ownBytes" "J" (.long (0 : Int64)) := D_1 (Or.inr (own_w114 hw)) (ty := .long) (by decide)
  have F_high_t : Fld Z h_1 t own_ST "high" "J" (.long (0 : Int64)) := D_1 (Or.inl (own_w116 hw)) (ty := .long) (by decide)
  have F_set_t : Fld Z h_1 t own_ST "set" own_dTS .null := D_1 (Or.inr (own_w118 hw)) (ty := (.object own_TS)) (by decide)
  have F_firstRun_t : Fld Z h_1 t own_ST "firstRun" own_dRUN .null := D_1 (Or.inr (own_w120 hw)) (ty := (.object own_RUN)) (by decide)
  have F_kept_t : Fld Z h_1 t own_ST "kept" "Z" (.int (0 : Int32)) := D_1 (Or.inl (own_w132 hw)) (ty := .boolean) (by decide)
  have F_keptRight_t : Fld Z h_1 t own_ST "keptRight" own_dST .null := D_1 (Or.inl (own_w151 hw)) (ty := (.object own_ST)) (by decide)
  have F_keptLeft_t : Fld Z h_1 t own_ST "keptLeft" own_dST .null := D_1 (Or.inl (own_w176 hw)) (ty := (.object own_ST)) (by decide)
  refine hst st_1 ?_
  show G (T_1.setTop (mkF mI 3 #[.val (.ref reg), .val (.int pq), .val (.ref no), .val (.long (0 : Int64)), .second, .val (.long (0 : Int64)), .second, .val (.long lo), .second, .val (.long hi), .second, .val (.ref ts), .unset, .unset] [(.ref t)]))
  have D_t := own_Tr_fresh C_z le_hh_t
  refine o_dup hst X_1.here hx (hb hby dad1_3) (pc' := 4) rfl rfl ?_
  refine o_iloadN hst X_1.here hx (hb hby dad1_4) (pc' := 5) rfl rfl ?_
  refine o_aloadN hst X_1.here hx (hb hby dad1_5) (pc' := 6) rfl rfl rfl ?_
  refine o_lloadN hst X_1.here hx (hb hby dad1_6) (pc' := 7) rfl rfl ?_
  refine o_lload hst X_1.here hx (hb hby dad1_7) (pc' := 9) rfl rfl ?_
  refine o_lload hst X_1.here hx (hb hby dad1_9) (pc' := 11) rfl rfl ?_
  refine o_lload hst X_1.here hx (hb hby dad1_11) (pc' := 13) rfl rfl ?_
  refine o_aload hst X_1.here hx (hb hby dad1_13) (pc' := 15) rfl rfl rfl ?_
  obtain ⟨_, _, ⟨T_2, L_2, k_2, n_2⟩, -, X_2, ⟨Lc_2, hQ_2, l_2, y_2, z_2⟩, st_2⟩ := X_1.specialBack hx (y := (⟨own_ST, "<init>", "(I[IJJJJLcom/example/tierfold/tierfold/tiered/TailSet;)V"⟩ : MethodName)) rfl hown (mvT hZ (own_w101 hw)) (mvT hZ (own_w102 hw)) (mvT hZ (own_w103 hw)) (by decide) (backOf (W := 1) (rmst lL Z a0 hw [] t pq no lo hi ts k_no h_1 n0 Z0 F_windows_t F_places_t F_total_t F_low_t F_ownBytes_t F_high_t F_set_t F_firstRun_t F_kept_t F_keptLeft_t F_keptRight_t E_t le_n0_t V_no) hZ (own_w103 hw) (own_w100 hw) (by decide) (by decide)) (g := (mkF mI 15 #[.val (.ref reg), .val (.int pq), .val (.ref no), .val (.long (0 : Int64)), .second, .val (.long (0 : Int64)), .second, .val (.long lo), .second, .val (.long hi), .second, .val (.ref ts), .unset, .unset] [(.ref ts), (.long hi), (.long lo), (.long (0 : Int64)), (.long (0 : Int64)), (.ref no), (.int pq), (.ref t), (.ref t)])) rfl (by rw [hml]; rfl) (Steps.refl _) (a := t) (argsL := [(.int pq), (.ref no), (.long (0 : Int64)), (.long (0 : Int64)), (.long lo), (.long hi), (.ref ts)]) (rest := [(.ref t)]) (lenOf pd_11 rfl) rfl (by show 2 * 0 + _ ≤ _; exact Nat.le_of_eq rfl) (hb hby dad1_15) (fun _ _ => ⟨rfl, e_1, (by decide : 1 + 0 ≤ _), (by decide : 21 + 0 ≤ _)⟩)
  dsimp only [Pt.U, Pt.locs, Pt.cells, Pt.slots] at X_2 l_2 y_2 z_2 st_2 hQ_2
  subst l_2 y_2 z_2
  obtain ⟨rfl, N_2q, K_2, N_t, L_t⟩ := hQ_2
  have S_k := own_Sta_keepL S_k K_2 (allS ⟨_, E_t⟩ all0)
  have Z0 := Nat.le_trans Z0 K_2.1
  have Z1 := Nat.le_trans Z1 K_2.1
  have F_kept_reg := F_kept_reg.keep K_2 (ninS ne_reg_t nin0)
  have E_reg := E_reg.keep K_2
  have E_tk := E_tk.keep K_2
  have C_t := own_Tr_keep K_2 _ _ _ C_t (own_nw D_t)
  have K0 := K0.trans K_2 (allS (Or.inr le_hh_t) all0)
  have E_t := E_t.keep K_2
  have N_2 := Fr.app N0 N_2q
  refine hst (fun _ kt => st_2.trans kt) ?_
  show G (T_2.setTop (mkF mI 18 #[.val (.ref reg), .val (.int pq), .val (.ref no), .val (.long (0 : Int64)), .second, .val (.long (0 : Int64)), .second, .val (.long lo), .second, .val (.long hi), .second, .val (.ref ts), .unset, .unset] [(.ref t)]))
  refine o_astore hst X_2.here hx (hb hby dad1_18) (pc' := 20) rfl (Lt := #[.val (.ref reg), .val (.int pq), .val (.ref no), .val (.long (0 : Int64)), .second, .val (.long (0 : Int64)), .second, .val (.long lo), .second, .val (.long hi), .second, .val (.ref ts), .val (.ref t), .unset]) rfl rfl ?_
  refine o_aloadN hst X_2.here hx (hb hby dad1_20) (pc' := 21) rfl rfl rfl ?_
  obtain ⟨T_3, X_3, e_3, st_3⟩ := getS2 X_2 hx hZ hown (host := "") (Or.inl (own_w121 hw)) Via.refl rfl S_k (g := (mkF mI 21 #[.val (.ref reg), .val (.int pq), .val (.ref no), .val (.long (0 : Int64)), .second, .val (.long (0 : Int64)), .second, .val (.long lo), .second, .val (.long hi), .second, .val (.ref ts), .val (.ref t), .unset] [(.ref reg)])) rfl (hb hby dad1_21)
  refine hst st_3 ?_
  show G (T_3.setTop (mkF mI 24 #[.val (.ref reg), .val (.int pq), .val (.ref no), .val (.long (0 : Int64)), .second, .val (.long (0 : Int64)), .second, .val (.long lo), .second, .val (.long hi), .second, .val (.ref ts), .val (.ref t), .unset] [(.ref tk), (.ref reg)]))
  refine o_aloadN hst X_3.here hx (hb hby dad1_24) (pc' := 25) rfl rfl rfl ?_
  obtain ⟨T_4, X_4, e_4, st_4⟩ := getF X_3 hx hZ hown (host := "") (Or.inl (own_w123 hw)) Via.refl e_3 F_kept_reg (g := (mkF mI 25 #[.val (.ref reg), .val (.int pq), .val (.ref no), .val (.long (0 : Int64)), .second, .val (.long (0 : Int64)), .second, .val (.long lo), .second, .val (.long hi), .second, .val (.ref ts), .val (.ref t), .unset] [(.ref reg), (.ref tk), (.ref reg)])) rfl rfl (hb hby dad1_25)
  refine hst st_4 ?_
  show G (T_4.setTop (mkF mI 28 #[.val (.ref reg), .val (.int pq), .val (.ref no), .val (.long (0 : Int64)), .second, .val (.long (0 : Int64)), .second, .val (.long lo), .second, .val (.long hi), .second, .val (.ref ts), .val (.ref t), .unset] [rv, (.ref tk), (.ref reg)]))
  refine o_aload hst X_4.here hx (hb hby dad1_28) (pc' := 30) rfl rfl rfl ?_
  obtain ⟨cq_5, kq_5, q_5a, q_5b, q_5c⟩ := isOf hZ e_4 E_tk
  obtain ⟨_, _, ⟨T_5, L_5, k_5, n_5⟩, -, X_5, ⟨Lc_5, hQ_5, l_5, y_5, z_5⟩, st_5⟩ := X_4.virtualBack hx (y := (⟨own_TP, "insert", "(Lcom/example/tierfold/tierfold/tiered/SharedTail;Lcom/example/tierfold/tierfold/tiered/SharedTail;)Lcom/example/tierfold/tierfold/tiered/SharedTail;"⟩ : MethodName)) (z := (⟨own_TP, "insert", "(Lcom/example/tierfold/tierfold/tiered/SharedTail;Lcom/example/tierfold/tierfold/tiered/SharedTail;)Lcom/example/tierfold/tierfold/tiered/SharedTail;"⟩ : MethodName)) hown (mvT hZ (own_w125 hw)) (mvT hZ (own_w126 hw)) (notFace_of_selects (args := #[]) (mvT hZ (own_w128 hw))) (mvT hZ (own_w128 hw)) (mvT hZ (own_w127 hw)) (by decide) (backOf (W := 1) (rmin1 lL Z a0 hw [] tk rv t Lq pq lo hi T_2.heap n0 Z0 hrv E_tk C_t N_t L_t le_n0_t D_t D_L S_L B_L H_L) hZ (own_w130 hw) (own_w129 hw) (by decide) (by decide)) q_5a q_5c (g := (mkF mI 30 #[.val (.ref reg), .val (.int pq), .val (.ref no), .val (.long (0 : Int64)), .second, .val (.long (0 : Int64)), .second, .val (.long lo), .second, .val (.long hi), .second, .val (.ref ts), .val (.ref t), .unset] [(.ref t), rv, (.ref tk), (.ref reg)])) rfl (by rw [hml]; rfl) (Steps.refl _) (argsL := [rv, (.ref t)]) (rest := [(.ref reg)]) (lenOf pd_10 rfl) rfl (by show 2 * 0 + _ ≤ _; exact Nat.le_of_eq rfl) (hb hby dad1_30) (fun _ _ => ⟨rfl, e_4, (by decide : 1 + 1 ≤ _), (by decide : 21 + 2 ≤ _)⟩)
  dsimp only [Pt.U, Pt.locs, Pt.cells, Pt.slots] at X_5 l_5 y_5 z_5 st_5 hQ_5
  subst l_5 y_5 z_5
  obtain ⟨rb, La, Lb, rfl, N_5q, K_5, C_w, eL, B1, B2⟩ := hQ_5
  have dR := own_ninX E_reg C_t (by decide)
  have Z0 := Nat.le_trans Z0 K_5.1
  have Z1 := Nat.le_trans Z1 K_5.1
  have F_kept_reg := F_kept_reg.keep K_5 (ninS ne_reg_t dR)
  have E_reg := E_reg.keep K_5
  have K0 := K0.trans K_5 (allS (Or.inr le_hh_t) (fun x hx => Or.inl (List.mem_cons_of_mem _ hx)))
  obtain ⟨E_t, -, -, -, F_firstRun_t, zk_t, F_kept_t⟩ := own_Tr_nd _ _ _ C_w (t, pq, lo, hi) (List.mem_append.mpr (Or.inr (List.mem_cons.mpr (Or.inl rfl))))
  have E_t : Exa Z T_5.heap t own_ST := E_t
  have F_firstRun_t : Fld Z T_5.heap t own_ST "firstRun" own_dRUN .null := F_firstRun_t
  have F_kept_t : Fld Z T_5.heap t own_ST "kept" "Z" zk_t := F_kept_t
  have hsl : own_Sl Z := ⟨slot_ne (Or.inr (own_w108 hw)) (Or.inl (own_w132 hw)) (by decide) (t := .int) (t' := .boolean) (by decide) (by decide), slot_ne (Or.inr (own_w112 hw)) (Or.inl (own_w132 hw)) (by decide) (t := .long) (t' := .boolean) (by decide) (by decide), slot_ne (Or.inl (own_w116 hw)) (Or.inl (own_w132 hw)) (by decide) (t := .long) (t' := .boolean) (by decide) (by decide), slot_ne (Or.inr (own_w120 hw)) (Or.inl (own_w132 hw)) (by decide) (t := (.object own_RUN)) (t' := .boolean) (by decide) (by decide), slot_ne (Or.inl (own_w176 hw)) (Or.inl (own_w132 hw)) (by decide) (t := (.object own_ST)) (t' := .boolean) (by decide) (by decide), slot_ne (Or.inl (own_w151 hw)) (Or.inl (own_w132 hw)) (by decide) (t := (.object own_ST)) (t' := .boolean) (by decide) (by decide)⟩
  have dRw : reg ∉ own_as (La ++ (t, pq, lo, hi) :: Lb) := own_ninX E_reg C_w (by decide)
  have N_5 := Fr.app N_2 N_5q
  refine hst (fun _ kt => st_5.trans kt) ?_
  show G (T_5.setTop (mkF mI 33 #[.val (.ref reg), .val (.int pq), .val (.ref no), .val (.long (0 : Int64)), .second, .val (.long (0 : Int64)), .second, .val (.long lo), .second, .val (.long hi), .second, .val (.ref ts), .val (.ref t), .unset] [(.ref rb), (.ref reg)]))
  obtain ⟨T_6, h_6, X_6, e_6, W_6, st_6⟩ := putF X_5 hx hZ hown (host := "") (Or.inl (own_w123 hw)) Via.refl rfl F_kept_reg E_reg (Or.inl (own_w124 hw)) (own_w14 hw) (ty := (.object own_ST)) (by decide) rfl rfl (g := (mkF mI 33 #[.val (.ref reg), .val (.int pq), .val (.ref no), .val (.long (0 : Int64)), .second, .val (.long (0 : Int64)), .second, .val (.long lo), .second, .val (.long hi), .second, .val (.ref ts), .val (.ref t), .unset] [(.ref rb), (.ref reg)])) rfl rfl (hb hby dad1_33)
  have Z0 := Nat.le_trans Z0 (Keep.of_wr W_6).1
  have Z1 := Nat.le_trans Z1 (Keep.of_wr W_6).1
  have F_kept_reg := F_kept_reg.same W_6
  have E_reg := E_reg.wr W_6
  have K0 := K0.wr W_6 (Or.inl (List.mem_of_getElem? (i := 0) rfl))
  have E_t := E_t.wr W_6
  have F_firstRun_t := F_firstRun_t.other W_6 (Or.inl (Ne.symm ne_reg_t))
  have F_kept_t := F_kept_t.other W_6 (Or.inl (Ne.symm ne_reg_t))
  have C_w := own_Tr_keep (Keep.of_wr W_6) _ _ _ C_w (own_nw dRw)
  have N_6 := Fr.snoc X_6 N_5 le_n0_reg
  refine hst st_6 ?_
  show G (T_6.setTop (mkF mI 36 #[.val (.ref reg), .val (.int pq), .val (.ref no), .val (.long (0 : Int64)), .second, .val (.long (0 : Int64)), .second, .val (.long lo), .second, .val (.long hi), .second, .val (.ref ts), .val (.ref t), .unset] []))
  refine o_aload hst X_6.here hx (hb hby dad1_36) (pc' := 38) rfl rfl rfl ?_
  refine o_iconst hst X_6.here hx (hb hby dad1_38) (pc' := 39) rfl (z := (1 : Int32)) rfl ?_
  obtain ⟨T_7, h_7, X_7, e_7, W_7, st_7⟩ := putFN X_6 hx hZ hown (own_w131 hw) Via.refl e_6 F_kept_t E_t (Or.inl (own_w132 hw)) (own_w99 hw) (ty := .boolean) (v' := (.int (1 : Int32))) (by decide) rfl rfl (g := (mkF mI 39 #[.val (.ref reg), .val (.int pq), .val (.ref no), .val (.long (0 : Int64)), .second, .val (.long (0 : Int64)), .second, .val (.long lo), .second, .val (.long hi), .second, .val (.ref ts), .val (.ref t), .unset] [(.int (1 : Int32)), (.ref t)])) rfl rfl (hb hby dad1_39)
  have Z0 := Nat.le_trans Z0 (Keep.of_wr W_7).1
  have Z1 := Nat.le_trans Z1 (Keep.of_wr W_7).1
  have F_kept_reg := F_kept_reg.other W_7 (Or.inl ne_reg_t)
  have E_reg := E_reg.wr W_7
  have K0 := K0.wr W_7 (Or.inr le_hh_t)
  have E_t := E_t.wr W_7
  have F_firstRun_t := F_firstRun_t.other W_7 (Or.inr (slot_ne (Or.inr (own_w120 hw)) (Or.inl (own_w132 hw)) (by decide) (t := (.object own_RUN)) (t' := .boolean) (by decide) (by decide)))
  have F_kept_t := F_kept_t.same W_7
  have C_w := own_Tr_wrK W_7 hsl _ _ _ C_w
  have N_7 := Fr.snoc X_7 N_6 le_n0_t
  refine hst st_7 ?_
  show G (T_7.setTop (mkF mI 42 #[.val (.ref reg), .val (.int pq), .val (.ref no), .val (.long (0 : Int64)), .second, .val (.long (0 : Int64)), .second, .val (.long lo), .second, .val (.long hi), .second, .val (.ref ts), .val (.ref t), .unset] []))
  refine o_aload hst X_7.here hx (hb hby dad1_42) (pc' := 44) rfl rfl rfl ?_
  obtain ⟨T_8, X_8, e_8, st_8⟩ := getF X_7 hx hZ hown (host := "") (Or.inl (own_w133 hw)) Via.refl e_7 F_firstRun_t (g := (mkF mI 44 #[.val (.ref reg), .val (.int pq), .val (.ref no), .val (.long (0 : Int64)), .second, .val (.long (0 : Int64)), .second, .val (.long lo), .second, .val (.long hi), .second, .val (.ref ts), .val (.ref t), .unset] [(.ref t)])) rfl rfl (hb hby dad1_44)
  refine hst st_8 ?_
  show G (T_8.setTop (mkF mI 47 #[.val (.ref reg), .val (.int pq), .val (.ref no), .val (.long (0 : Int64)), .second, .val (.long (0 : Int64)), .second, .val (.long lo), .second, .val (.long hi), .second, .val (.ref ts), .val (.ref t), .unset] [.null]))
  refine o_astore hst X_8.here hx (hb hby dad1_47) (pc' := 49) rfl (Lt := #[.val (.ref reg), .val (.int pq), .val (.ref no), .val (.long (0 : Int64)), .second, .val (.long (0 : Int64)), .second, .val (.long lo), .second, .val (.long hi), .second, .val (.ref ts), .val (.ref t), .val .null]) rfl rfl ?_
  refine o_aload hst X_8.here hx (hb hby dad1_49) (pc' := 51) rfl rfl rfl ?_
  refine hst (fun _ kt => XS.ifnullYes X_8.here hx rfl (pc0 := 51) (pc' := 146) rfl (hb hby dad1_51) rfl (by decide) (by decide) kt) ?_
  show G (T_8.setTop (mkF mI 146 #[.val (.ref reg), .val (.int pq), .val (.ref no), .val (.long (0 : Int64)), .second, .val (.long (0 : Int64)), .second, .val (.long lo), .second, .val (.long hi), .second, .val (.ref ts), .val (.ref t), .val .null] []))
  refine o_aload hst X_8.here hx (hb hby dad1_146) (pc' := 148) rfl rfl rfl ?_
  exact hend (own_goRet X_8 hx Bd.returns rfl (Or.inr (Or.inr (Or.inr (Or.inr ⟨rfl, rfl, rfl⟩)))) (hb hby dad1_148) Bd.notSynchronized (by rw [e_8]; exact ⟨t, rb, La, Lb, rfl, N_7, K0, le_hh_t, F_kept_reg, C_w, eL, B1, B2⟩) (by decide) (by decide))
theorem dad2_0 : decode prog_150_method_3_code 0 = .ok (.new 43, 3) := by decide +kernel
theorem dad2_3 : decode prog_150_method_3_code 3 = .ok (.dup, 1) := by decide +kernel
theorem dad2_4 : decode prog_150_method_3_code 4 = .ok (.iload_n 1, 1) := by decide +kernel
theorem dad2_5 : decode prog_150_method_3_code 5 = .ok (.aload_n 2, 1) := by decide +kernel
theorem dad2_6 : decode prog_150_method_3_code 6 = .ok (.lload_n 3, 1) := by decide +kernel
theorem dad2_7 : decode prog_150_method_3_code 7 = .ok (.lload 5, 2) := by decide +kernel
theorem dad2_9 : decode prog_150_method_3_code 9 = .ok (.lload 7, 2) := by decide +kernel
theorem dad2_11 : decode prog_150_method_3_code 11 = .ok (.lload 9, 2) := by decide +kernel
theorem dad2_13 : decode prog_150_method_3_code 13 = .ok (.aload 11, 2) := by decide +kernel
theorem dad2_15 : decode prog_150_method_3_code 15 = .ok (.invokespecial 61, 3) := by decide +kernel
theorem dad2_18 : decode prog_150_method_3_code 18 = .ok (.astore 12, 2) := by decide +kernel
theorem dad2_20 : decode prog_150_method_3_code 20 = .ok (.aload_n 0, 1) := by decide +kernel
theorem dad2_21 : decode prog_150_method_3_code 21 = .ok (.getstatic 64, 3) := by decide +kernel
theorem dad2_24 : decode prog_150_method_3_code 24 = .ok (.aload_n 0, 1) := by decide +kernel
theorem dad2_25 : decode prog_150_method_3_code 25 = .ok (.getfield 38, 3) := by decide +kernel
theorem dad2_28 : decode prog_150_method_3_code 28 = .ok (.aload 12, 2) := by decide +kernel
theorem dad2_30 : decode prog_150_method_3_code 30 = .ok (.invokevirtual 68, 3) := by decide +kernel
theorem dad2_33 : decode prog_150_method_3_code 33 = .ok (.putfield 38, 3) := by decide +kernel
theorem dad2_36 : decode prog_150_method_3_code 36 = .ok (.aload 12, 2) := by decide +kernel
theorem dad2_38 : decode prog_150_method_3_code 38 = .ok (.iconst 1, 1) := by decide +kernel
theorem dad2_39 : decode prog_150_method_3_code 39 = .ok (.putfield 74, 3) := by decide +kernel
theorem dad2_42 : decode prog_150_method_3_code 42 = .ok (.aload 12, 2) := by decide +kernel
theorem dad2_44 : decode prog_150_method_3_code 44 = .ok (.getfield 77, 3) := by decide +kernel
theorem dad2_47 : decode prog_150_method_3_code 47 = .ok (.astore 13, 2) := by decide +kernel
theorem dad2_49 : decode prog_150_method_3_code 49 = .ok (.aload 13, 2) := by decide +kernel
theorem dad2_51 : decode prog_150_method_3_code 51 = .ok (.ifnull 95, 3) := by decide +kernel
theorem dad2_146 : decode prog_150_method_3_code 146 = .ok (.aload 12, 2) := by decide +kernel
theorem dad2_148 : decode prog_150_method_3_code 148 = .ok (.areturn, 1) := by decide +kernel
theorem ef_ad2 (mI : MethodId) (reg : Addr) (pq : Int32) (no : Addr) (lo : Int64) (hi : Int64) (ts : Addr) : entryFrame mI #[(.ref reg), (.int pq), (.ref no), (.long (0 : Int64)), (.long (0 : Int64)), (.long lo), (.long hi), (.ref ts)] 14 = mkF mI 0 #[.val (.ref reg), .val (.int pq), .val (.ref no), .val (.long (0 : Int64)), .second, .val (.long (0 : Int64)), .second, .val (.long lo), .second, .val (.long hi), .second, .val (.ref ts), .unset, .unset] [] := by first | (simp [entryFrame, mkF, argsToLocals, Value.category]; done) | rfl
theorem pn_ad2 : plainName own_SS = true := by first | decide +kernel | (simp [plainName, overriddenIn]; done)
set_option maxRecDepth 65536 in
set_option maxHeartbeats 40000000 in
theorem rmad2 (lL : Launch) (Z : State) (a0 : Array Value) (hw : ∀ d ∈ tables_1, d.before a0 Z = true) (ws : List Jvm.Cond) (reg : Addr) (pq : Int32) (no : Addr) (lo : Int64) (hi : Int64) (ts : Addr) (k_no : ClassId) (tk : Addr) (rv : Value) (Lq : List own_R) (h0 : Heap) (n0 : Nat) (Z0 : n0 ≤ h0.size) (F_kept_reg : Fld Z h0 reg own_SS "kept" own_dST rv) (E_reg : Exa Z h0 reg own_SS) (le_n0_reg : n0 ≤ reg) (S_k : Sta Z h0 own_SS "KEPT" own_dTP (.ref tk)) (E_tk : Exa Z h0 tk own_S1) (V_no : Arv Z h0 no k_no .int (0 : Int32) [] (.int (0 : Int32))) (C_t : own_Tr Z h0 2 rv Lq) (D_L : (own_as Lq).Pairwise (· ≠ ·)) (S_L : Lq.Pairwise own_bf) (B_L : ∀ x ∈ own_as Lq, n0 ≤ x) (H_L : ∀ x ∈ Lq, own_kk x.2.1 x.2.2.1 pq lo ∨ own_kk pq lo x.2.1 x.2.2.1) :
    MetFree lL (⟨own_SS, "add", "(I[IJJJJLcom/example/tierfold/tierfold/tiered/TailSet;)Lcom/example/tierfold/tierfold/tiered/SharedTail;"⟩ : MethodName) (head1 (Jvm.Cond.code (⟨own_SS, "add", "(I[IJJJJLcom/example/tierfold/tierfold/tiered/TailSet;)Lcom/example/tierfold/tierfold/tiered/SharedTail;"⟩ : MethodName) prog_150_method_3_code 14 (some (.object own_ST)) :: ws) ({ frames := 4, cells := 2, slots := 23, locals := 63 } : Room)) (fun a_ U_ => a_ = #[(.ref reg), (.int pq), (.ref no), (.long (0 : Int64)), (.long (0 : Int64)), (.long lo), (.long hi), (.ref ts)] ∧ Z.Warmed39 U_.vm ∧ U_.heap = h0) (fun _ _ _ _ _ => True) (fun _ U_ o_ W_ => ∃ v_ L_, o_ = .returned v_ ∧ own_Qad Z 3 reg pq lo hi Lq h0 n0 v_ W_.heap L_ ∧ FrameEnd U_ o_ W_ L_ ({ frames := 4, cells := 2, slots := 23, locals := 63 } : Room).cells ({ frames := 4, cells := 2, slots := 23, locals := 63 } : Room).slots) := by
  refine MetFree.of_bodySF (plainFor_of_name pn_ad2) hisR ?_
  intro pP eE sS mI args below meth cC s₁ Bd hml0 hP hK
  obtain ⟨rfl, hZ, hh⟩ := hP
  have hx := Bd.exec
  have hby := Bd.bytes
  have hml : cC.maxLocals = 14 := hml0
  have hown : sS.vm.findClass own_SS = some mI.cls := by have z := findClass_of_methodNamed Bd.named; exact z
  have hnm := (name_of_methodNamed Bd.named Bd.method).1
  have X0 : Stand pP lL eE ({ frames := 4, cells := 2, slots := 23, locals := 63 } : Room) sS mI #[(.ref reg), (.int pq), (.ref no), (.long (0 : Int64)), (.long (0 : Int64)), (.long lo), (.long hi), (.ref ts)] below meth cC s₁ [] 0 0 := Stand.of_body Bd
  have e0 : s₁.heap = h0 := by rw [← hh, Bd.state]; rfl
  have N0 := Fr.nil n0
  obtain ⟨G, hG, hst, hend⟩ := own_abs pP eE below sS (own_Qad Z 3 reg pq lo hi Lq h0 n0) ({ frames := 4, cells := 2, slots := 23, locals := 63 } : Room).cells ({ frames := 4, cells := 2, slots := 23, locals := 63 } : Room).slots
  refine hG (S := s₁.setTop (entryFrame mI #[(.ref reg), (.int pq), (.ref no), (.long (0 : Int64)), (.long (0 : Int64)), (.long lo), (.long hi), (.ref ts)] 14)) (hst (fun t_ kt_ => castTop (ef_ad2 mI reg pq no lo hi ts) kt_) ?_)
  have Z1 := Nat.le_refl h0.size
  have hrv := own_Tr_ref C_t
  have C_z := C_t
  have K0 := Keep.refl h0 (reg :: own_as Lq)
  show G (s₁.setTop (mkF mI 0 #[.val (.ref reg), .val (.int pq), .val (.ref no), .val (.long (0 : Int64)), .second, .val (.long (0 : Int64)), .second, .val (.long lo), .second, .val (.long hi), .second, .val (.ref ts), .unset, .unset] []))
  obtain ⟨T_1, h_1, X_1, e_1, E_1, A_1, D_1, -, st_1⟩ := newO X0 hx hZ hown (own_w98 hw) (own_w99 hw) (own_w100 hw) e0 (g := (mkF mI 0 #[.val (.ref reg), .val (.int pq), .val (.ref no), .val (.long (0 : Int64)), .second, .val (.long (0 : Int64)), .second, .val (.long lo), .second, .val (.long hi), .second, .val (.ref ts), .unset, .unset] [])) rfl (hb hby dad2_0) (by decide) (by decide)
  obtain ⟨t, g_t⟩ : ∃ z, z = h0.size := ⟨_, rfl⟩
  rw [← g_t] at A_1 D_1 st_1
  have ne_reg_t : reg ≠ t := Nat.ne_of_lt (Nat.lt_of_lt_of_le F_kept_reg.lt (Nat.le_of_eq g_t.symm))
  have ne_no_t : no ≠ t := Nat.ne_of_lt (Nat.lt_of_lt_of_le V_no.lt (Nat.le_of_eq g_t.symm))
  have le_n0_t : n0 ≤ t := Nat.le_trans Z0 (Nat.le_of_eq g_t.symm)
  have le_hh_t : h0.size ≤ t := Nat.le_trans Z1 (Nat.le_of_eq g_t.symm)
  have Z0 := Nat.le_trans Z0 E_1.1
  have Z1 := Nat.le_trans Z1 E_1.1
  have F_kept_reg := F_kept_reg.ext E_1
  have E_reg := E_reg.ext E_1
  have S_k := S_k.ext E_1
  have E_tk := E_tk.ext E_1
  have V_no := V_no.ext E_1
  have C_t := own_Tr_keep ((Keep.refl _ []).ext E_1) _ _ _ C_t (fun _ _ => nin0)
  have K0 := K0.ext E_1
  have E_t : Exa Z h_1 t own_ST := A_1
  have F_windows_t : Fld Z h_1 t own_ST "windows" "I" (.int (0 : Int32)) := D_1 (Or.inl (own_w106 hw)) (ty := .int) (by decide)
  have F_places_t : Fld Z h_1 t own_ST "places" "I" (.int (0 : Int32)) := D_1 (Or.inr (own_w108 hw)) (ty := .int) (by decide)
  have F_total_t : Fld Z h_1 t own_ST "total" "J" (.long (0 : Int64)) := D_1 (Or.inr (own_w110 hw)) (ty := .long) (by decide)
  have F_low_t : Fld Z h_1 t own_ST "low" "J" (.long (0 : Int64)) := D_1 (Or.inr (own_w112 hw)) (ty := .long) (by decide)
  have F_ownBytes_t : Fld Z h_1 t own_ST "ownBytes" "J" (.long (0 : Int64)) := D_1 (Or.inr (own_w114 hw)) (ty := .long) (by decide)
  have F_high_t : Fld Z h_1 t own_ST "high" "J" (.long (0 : Int64)) := D_1 (Or.inl (own_w116 hw)) (ty := .long) (by decide)
  have F_set_t : Fld Z h_1 t own_ST "set" own_dTS .null := D_1 (Or.inr (own_w118 hw)) (ty := (.object own_TS)) (by decide)
  have F_firstRun_t : Fld Z h_1 t own_ST "firstRun" own_dRUN .null := D_1 (Or.inr (own_w120 hw)) (ty := (.object own_RUN)) (by decide)
  have F_kept_t : Fld Z h_1 t own_ST "kept" "Z" (.int (0 : Int32)) := D_1 (Or.inl (own_w132 hw)) (ty := .boolean) (by decide)
  have F_keptRight_t : Fld Z h_1 t own_ST "keptRight" own_dST .null := D_1 (Or.inl (own_w151 hw)) (ty := (.object own_ST)) (by decide)
  have F_keptLeft_t : Fld Z h_1 t own_ST "keptLeft" own_dST .null := D_1 (Or.inl (own_w176 hw)) (ty := (.object own_ST)) (by decide)
  refine hst st_1 ?_
  show G (T_1.setTop (mkF mI 3 #[.val (.ref reg), .val (.int pq), .val (.ref no), .val (.long (0 : Int64)), .second, .val (.long (0 : Int64)), .second, .val (.long lo), .second, .val (.long hi), .second, .val (.ref ts), .unset, .unset] [(.ref t)]))
  have D_t := own_Tr_fresh C_z le_hh_t
  refine o_dup hst X_1.here hx (hb hby dad2_3) (pc' := 4) rfl rfl ?_
  refine o_iloadN hst X_1.here hx (hb hby dad2_4) (pc' := 5) rfl rfl ?_
  refine o_aloadN hst X_1.here hx (hb hby dad2_5) (pc' := 6) rfl rfl rfl ?_
  refine o_lloadN hst X_1.here hx (hb hby dad2_6) (pc' := 7) rfl rfl ?_
  refine o_lload hst X_1.here hx (hb hby dad2_7) (pc' := 9) rfl rfl ?_
  refine o_lload hst X_1.here hx (hb hby dad2_9) (pc' := 11) rfl rfl ?_
  refine o_lload hst X_1.here hx (hb hby dad2_11) (pc' := 13) rfl rfl ?_
  refine o_aload hst X_1.here hx (hb hby dad2_13) (pc' := 15) rfl rfl rfl ?_
  obtain ⟨_, _, ⟨T_2, L_2, k_2, n_2⟩, -, X_2, ⟨Lc_2, hQ_2, l_2, y_2, z_2⟩, st_2⟩ := X_1.specialBack hx (y := (⟨own_ST, "<init>", "(I[IJJJJLcom/example/tierfold/tierfold/tiered/TailSet;)V"⟩ : MethodName)) rfl hown (mvT hZ (own_w101 hw)) (mvT hZ (own_w102 hw)) (mvT hZ (own_w103 hw)) (by decide) (backOf (W := 1) (rmst lL Z a0 hw [] t pq no lo hi ts k_no h_1 n0 Z0 F_windows_t F_places_t F_total_t F_low_t F_ownBytes_t F_high_t F_set_t F_firstRun_t F_kept_t F_keptLeft_t F_keptRight_t E_t le_n0_t V_no) hZ (own_w103 hw) (own_w100 hw) (by decide) (by decide)) (g := (mkF mI 15 #[.val (.ref reg), .val (.int pq), .val (.ref no), .val (.long (0 : Int64)), .second, .val (.long (0 : Int64)), .second, .val (.long lo), .second, .val (.long hi), .second, .val (.ref ts), .unset, .unset] [(.ref ts), (.long hi), (.long lo), (.long (0 : Int64)), (.long (0 : Int64)), (.ref no), (.int pq), (.ref t), (.ref t)])) rfl (by rw [hml]; rfl) (Steps.refl _) (a := t) (argsL := [(.int pq), (.ref no), (.long (0 : Int64)), (.long (0 : Int64)), (.long lo), (.long hi), (.ref ts)]) (rest := [(.ref t)]) (lenOf pd_11 rfl) rfl (by show 2 * 0 + _ ≤ _; exact Nat.le_of_eq rfl) (hb hby dad2_15) (fun _ _ => ⟨rfl, e_1, (by decide : 1 + 0 ≤ _), (by decide : 21 + 0 ≤ _)⟩)
  dsimp only [Pt.U, Pt.locs, Pt.cells, Pt.slots] at X_2 l_2 y_2 z_2 st_2 hQ_2
  subst l_2 y_2 z_2
  obtain ⟨rfl, N_2q, K_2, N_t, L_t⟩ := hQ_2
  have S_k := own_Sta_keepL S_k K_2 (allS ⟨_, E_t⟩ all0)
  have Z0 := Nat.le_trans Z0 K_2.1
  have Z1 := Nat.le_trans Z1 K_2.1
  have F_kept_reg := F_kept_reg.keep K_2 (ninS ne_reg_t nin0)
  have E_reg := E_reg.keep K_2
  have E_tk := E_tk.keep K_2
  have C_t := own_Tr_keep K_2 _ _ _ C_t (own_nw D_t)
  have K0 := K0.trans K_2 (allS (Or.inr le_hh_t) all0)
  have E_t := E_t.keep K_2
  have N_2 := Fr.app N0 N_2q
  refine hst (fun _ kt => st_2.trans kt) ?_
  show G (T_2.setTop (mkF mI 18 #[.val (.ref reg), .val (.int pq), .val (.ref no), .val (.long (0 : Int64)), .second, .val (.long (0 : Int64)), .second, .val (.long lo), .second, .val (.long hi), .second, .val (.ref ts), .unset, .unset] [(.ref t)]))
  refine o_astore hst X_2.here hx (hb hby dad2_18) (pc' := 20) rfl (Lt := #[.val (.ref reg), .val (.int pq), .val (.ref no), .val (.long (0 : Int64)), .second, .val (.long (0 : Int64)), .second, .val (.long lo), .second, .val (.long hi), .second, .val (.ref ts), .val (.ref t), .unset]) rfl rfl ?_
  refine o_aloadN hst X_2.here hx (hb hby dad2_20) (pc' := 21) rfl rfl rfl ?_
  obtain ⟨T_3, X_3, e_3, st_3⟩ := getS2 X_2 hx hZ hown (host := "") (Or.inl (own_w121 hw)) Via.refl rfl S_k (g := (mkF mI 21 #[.val (.ref reg), .val (.int pq), .val (.ref no), .val (.long (0 : Int64)), .second, .val (.long (0 : Int64)), .second, .val (.long lo), .second, .val (.long hi), .second, .val (.ref ts), .val (.ref t), .unset] [(.ref reg)])) rfl (hb hby dad2_21)
  refine hst st_3 ?_
  show G (T_3.setTop (mkF mI 24 #[.val (.ref reg), .val (.int pq), .val (.ref no), .val (.long (0 : Int64)), .second, .val (.long (0 : Int64)), .second, .val (.long lo), .second, .val (.long hi), .second, .val (.ref ts), .val (.ref t), .unset] [(.ref tk), (.ref reg)]))
  refine o_aloadN hst X_3.here hx (hb hby dad2_24) (pc' := 25) rfl rfl rfl ?_
  obtain ⟨T_4, X_4, e_4, st_4⟩ := getF X_3 hx hZ hown (host := "") (Or.inl (own_w123 hw)) Via.refl e_3 F_kept_reg (g := (mkF mI 25 #[.val (.ref reg), .val (.int pq), .val (.ref no), .val (.long (0 : Int64)), .second, .val (.long (0 : Int64)), .second, .val (.long lo), .second, .val (.long hi), .second, .val (.ref ts), .val (.ref t), .unset] [(.ref reg), (.ref tk), (.ref reg)])) rfl rfl (hb hby dad2_25)
  refine hst st_4 ?_
  show G (T_4.setTop (mkF mI 28 #[.val (.ref reg), .val (.int pq), .val (.ref no), .val (.long (0 : Int64)), .second, .val (.long (0 : Int64)), .second, .val (.long lo), .second, .val (.long hi), .second, .val (.ref ts), .val (.ref t), .unset] [rv, (.ref tk), (.ref reg)]))
  refine o_aload hst X_4.here hx (hb hby dad2_28) (pc' := 30) rfl rfl rfl ?_
  obtain ⟨cq_5, kq_5, q_5a, q_5b, q_5c⟩ := isOf hZ e_4 E_tk
  obtain ⟨_, _, ⟨T_5, L_5, k_5, n_5⟩, -, X_5, ⟨Lc_5, hQ_5, l_5, y_5, z_5⟩, st_5⟩ := X_4.virtualBack hx (y := (⟨own_TP, "insert", "(Lcom/example/tierfold/tierfold/tiered/SharedTail;Lcom/example/tierfold/tierfold/tiered/SharedTail;)Lcom/example/tierfold/tierfold/tiered/SharedTail;"⟩ : MethodName)) (z := (⟨own_TP, "insert", "(Lcom/example/tierfold/tierfold/tiered/SharedTail;Lcom/example/tierfold/tierfold/tiered/SharedTail;)Lcom/example/tierfold/tierfold/tiered/SharedTail;"⟩ : MethodName)) hown (mvT hZ (own_w125 hw)) (mvT hZ (own_w126 hw)) (notFace_of_selects (args := #[]) (mvT hZ (own_w128 hw))) (mvT hZ (own_w128 hw)) (mvT hZ (own_w127 hw)) (by decide) (backOf (W := 1) (rmin2 lL Z a0 hw [] tk rv t Lq pq lo hi T_2.heap n0 Z0 hrv E_tk C_t N_t L_t le_n0_t D_t D_L S_L B_L H_L) hZ (own_w130 hw) (own_w129 hw) (by decide) (by decide)) q_5a q_5c (g := (mkF mI 30 #[.val (.ref reg), .val (.int pq), .val (.ref no), .val (.long (0 : Int64)), .second, .val (.long (0 : Int64)), .second, .val (.long lo), .second, .val (.long hi), .second, .val (.ref ts), .val (.ref t), .unset] [(.ref t), rv, (.ref tk), (.ref reg)])) rfl (by rw [hml]; rfl) (Steps.refl _) (argsL := [rv, (.ref t)]) (rest := [(.ref reg)]) (lenOf pd_10 rfl) rfl (by show 2 * 0 + _ ≤ _; exact Nat.le_of_eq rfl) (hb hby dad2_30) (fun _ _ => ⟨rfl, e_4, (by decide : 1 + 1 ≤ _), (by decide : 21 + 2 ≤ _)⟩)
  dsimp only [Pt.U, Pt.locs, Pt.cells, Pt.slots] at X_5 l_5 y_5 z_5 st_5 hQ_5
  subst l_5 y_5 z_5
  obtain ⟨rb, La, Lb, rfl, N_5q, K_5, C_w, eL, B1, B2⟩ := hQ_5
  have dR := own_ninX E_reg C_t (by decide)
  have Z0 := Nat.le_trans Z0 K_5.1
  have Z1 := Nat.le_trans Z1 K_5.1
  have F_kept_reg := F_kept_reg.keep K_5 (ninS ne_reg_t dR)
  have E_reg := E_reg.keep K_5
  have K0 := K0.trans K_5 (allS (Or.inr le_hh_t) (fun x hx => Or.inl (List.mem_cons_of_mem _ hx)))
  obtain ⟨E_t, -, -, -, F_firstRun_t, zk_t, F_kept_t⟩ := own_Tr_nd _ _ _ C_w (t, pq, lo, hi) (List.mem_append.mpr (Or.inr (List.mem_cons.mpr (Or.inl rfl))))
  have E_t : Exa Z T_5.heap t own_ST := E_t
  have F_firstRun_t : Fld Z T_5.heap t own_ST "firstRun" own_dRUN .null := F_firstRun_t
  have F_kept_t : Fld Z T_5.heap t own_ST "kept" "Z" zk_t := F_kept_t
  have hsl : own_Sl Z := ⟨slot_ne (Or.inr (own_w108 hw)) (Or.inl (own_w132 hw)) (by decide) (t := .int) (t' := .boolean) (by decide) (by decide), slot_ne (Or.inr (own_w112 hw)) (Or.inl (own_w132 hw)) (by decide) (t := .long) (t' := .boolean) (by decide) (by decide), slot_ne (Or.inl (own_w116 hw)) (Or.inl (own_w132 hw)) (by decide) (t := .long) (t' := .boolean) (by decide) (by decide), slot_ne (Or.inr (own_w120 hw)) (Or.inl (own_w132 hw)) (by decide) (t := (.object own_RUN)) (t' := .boolean) (by decide) (by decide), slot_ne (Or.inl (own_w176 hw)) (Or.inl (own_w132 hw)) (by decide) (t := (.object own_ST)) (t' := .boolean) (by decide) (by decide), slot_ne (Or.inl (own_w151 hw)) (Or.inl (own_w132 hw)) (by decide) (t := (.object own_ST)) (t' := .boolean) (by decide) (by decide)⟩
  have dRw : reg ∉ own_as (La ++ (t, pq, lo, hi) :: Lb) := own_ninX E_reg C_w (by decide)
  have N_5 := Fr.app N_2 N_5q
  refine hst (fun _ kt => st_5.trans kt) ?_
  show G (T_5.setTop (mkF mI 33 #[.val (.ref reg), .val (.int pq), .val (.ref no), .val (.long (0 : Int64)), .second, .val (.long (0 : Int64)), .second, .val (.long lo), .second, .val (.long hi), .second, .val (.ref ts), .val (.ref t), .unset] [(.ref rb), (.ref reg)]))
  obtain ⟨T_6, h_6, X_6, e_6, W_6, st_6⟩ := putF X_5 hx hZ hown (host := "") (Or.inl (own_w123 hw)) Via.refl rfl F_kept_reg E_reg (Or.inl (own_w124 hw)) (own_w14 hw) (ty := (.object own_ST)) (by decide) rfl rfl (g := (mkF mI 33 #[.val (.ref reg), .val (.int pq), .val (.ref no), .val (.long (0 : Int64)), .second, .val (.long (0 : Int64)), .second, .val (.long lo), .second, .val (.long hi), .second, .val (.ref ts), .val (.ref t), .unset] [(.ref rb), (.ref reg)])) rfl rfl (hb hby dad2_33)
  have Z0 := Nat.le_trans Z0 (Keep.of_wr W_6).1
  have Z1 := Nat.le_trans Z1 (Keep.of_wr W_6).1
  have F_kept_reg := F_kept_reg.same W_6
  have E_reg := E_reg.wr W_6
  have K0 := K0.wr W_6 (Or.inl (List.mem_of_getElem? (i := 0) rfl))
  have E_t := E_t.wr W_6
  have F_firstRun_t := F_firstRun_t.other W_6 (Or.inl (Ne.symm ne_reg_t))
  have F_kept_t := F_kept_t.other W_6 (Or.inl (Ne.symm ne_reg_t))
  have C_w := own_Tr_keep (Keep.of_wr W_6) _ _ _ C_w (own_nw dRw)
  have N_6 := Fr.snoc X_6 N_5 le_n0_reg
  refine hst st_6 ?_
  show G (T_6.setTop (mkF mI 36 #[.val (.ref reg), .val (.int pq), .val (.ref no), .val (.long (0 : Int64)), .second, .val (.long (0 : Int64)), .second, .val (.long lo), .second, .val (.long hi), .second, .val (.ref ts), .val (.ref t), .unset] []))
  refine o_aload hst X_6.here hx (hb hby dad2_36) (pc' := 38) rfl rfl rfl ?_
  refine o_iconst hst X_6.here hx (hb hby dad2_38) (pc' := 39) rfl (z := (1 : Int32)) rfl ?_
  obtain ⟨T_7, h_7, X_7, e_7, W_7, st_7⟩ := putFN X_6 hx hZ hown (own_w131 hw) Via.refl e_6 F_kept_t E_t (Or.inl (own_w132 hw)) (own_w99 hw) (ty := .boolean) (v' := (.int (1 : Int32))) (by decide) rfl rfl (g := (mkF mI 39 #[.val (.ref reg), .val (.int pq), .val (.ref no), .val (.long (0 : Int64)), .second, .val (.long (0 : Int64)), .second, .val (.long lo), .second, .val (.long hi), .second, .val (.ref ts), .val (.ref t), .unset] [(.int (1 : Int32)), (.ref t)])) rfl rfl (hb hby dad2_39)
  have Z0 := Nat.le_trans Z0 (Keep.of_wr W_7).1
  have Z1 := Nat.le_trans Z1 (Keep.of_wr W_7).1
  have F_kept_reg := F_kept_reg.other W_7 (Or.inl ne_reg_t)
  have E_reg := E_reg.wr W_7
  have K0 := K0.wr W_7 (Or.inr le_hh_t)
  have E_t := E_t.wr W_7
  have F_firstRun_t := F_firstRun_t.other W_7 (Or.inr (slot_ne (Or.inr (own_w120 hw)) (Or.inl (own_w132 hw)) (by decide) (t := (.object own_RUN)) (t' := .boolean) (by decide) (by decide)))
  have F_kept_t := F_kept_t.same W_7
  have C_w := own_Tr_wrK W_7 hsl _ _ _ C_w
  have N_7 := Fr.snoc X_7 N_6 le_n0_t
  refine hst st_7 ?_
  show G (T_7.setTop (mkF mI 42 #[.val (.ref reg), .val (.int pq), .val (.ref no), .val (.long (0 : Int64)), .second, .val (.long (0 : Int64)), .second, .val (.long lo), .second, .val (.long hi), .second, .val (.ref ts), .val (.ref t), .unset] []))
  refine o_aload hst X_7.here hx (hb hby dad2_42) (pc' := 44) rfl rfl rfl ?_
  obtain ⟨T_8, X_8, e_8, st_8⟩ := getF X_7 hx hZ hown (host := "") (Or.inl (own_w133 hw)) Via.refl e_7 F_firstRun_t (g := (mkF mI 44 #[.val (.ref reg), .val (.int pq), .val (.ref no), .val (.long (0 : Int64)), .second, .val (.long (0 : Int64)), .second, .val (.long lo), .second, .val (.long hi), .second, .val (.ref ts), .val (.ref t), .unset] [(.ref t)])) rfl rfl (hb hby dad2_44)
  refine hst st_8 ?_
  show G (T_8.setTop (mkF mI 47 #[.val (.ref reg), .val (.int pq), .val (.ref no), .val (.long (0 : Int64)), .second, .val (.long (0 : Int64)), .second, .val (.long lo), .second, .val (.long hi), .second, .val (.ref ts), .val (.ref t), .unset] [.null]))
  refine o_astore hst X_8.here hx (hb hby dad2_47) (pc' := 49) rfl (Lt := #[.val (.ref reg), .val (.int pq), .val (.ref no), .val (.long (0 : Int64)), .second, .val (.long (0 : Int64)), .second, .val (.long lo), .second, .val (.long hi), .second, .val (.ref ts), .val (.ref t), .val .null]) rfl rfl ?_
  refine o_aload hst X_8.here hx (hb hby dad2_49) (pc' := 51) rfl rfl rfl ?_
  refine hst (fun _ kt => XS.ifnullYes X_8.here hx rfl (pc0 := 51) (pc' := 146) rfl (hb hby dad2_51) rfl (by decide) (by decide) kt) ?_
  show G (T_8.setTop (mkF mI 146 #[.val (.ref reg), .val (.int pq), .val (.ref no), .val (.long (0 : Int64)), .second, .val (.long (0 : Int64)), .second, .val (.long lo), .second, .val (.long hi), .second, .val (.ref ts), .val (.ref t), .val .null] []))
  refine o_aload hst X_8.here hx (hb hby dad2_146) (pc' := 148) rfl rfl rfl ?_
  exact hend (own_goRet X_8 hx Bd.returns rfl (Or.inr (Or.inr (Or.inr (Or.inr ⟨rfl, rfl, rfl⟩)))) (hb hby dad2_148) Bd.notSynchronized (by rw [e_8]; exact ⟨t, rb, La, Lb, rfl, N_7, K0, le_hh_t, F_kept_reg, C_w, eL, B1, B2⟩) (by decide) (by decide))
theorem dfd_0 : decode prog_150_method_2_code 0 = .ok (.aconst_null, 1) := by decide +kernel
theorem dfd_1 : decode prog_150_method_2_code 1 = .ok (.astore 4, 2) := by decide +kernel
theorem dfd_3 : decode prog_150_method_2_code 3 = .ok (.aload_n 0, 1) := by decide +kernel
theorem dfd_4 : decode prog_150_method_2_code 4 = .ok (.getfield 38, 3) := by decide +kernel
theorem dfd_7 : decode prog_150_method_2_code 7 = .ok (.astore 5, 2) := by decide +kernel
theorem dfd_9 : decode prog_150_method_2_code 9 = .ok (.aload 5, 2) := by decide +kernel
theorem dfd_11 : decode prog_150_method_2_code 11 = .ok (.ifnull 55, 3) := by decide +kernel
theorem dfd_14 : decode prog_150_method_2_code 14 = .ok (.aload 5, 2) := by decide +kernel
theorem dfd_16 : decode prog_150_method_2_code 16 = .ok (.getfield 42, 3) := by decide +kernel
theorem dfd_19 : decode prog_150_method_2_code 19 = .ok (.iload_n 1, 1) := by decide +kernel
theorem dfd_20 : decode prog_150_method_2_code 20 = .ok (.if_icmp .lt 22, 3) := by decide +kernel
theorem dfd_23 : decode prog_150_method_2_code 23 = .ok (.aload 5, 2) := by decide +kernel
theorem dfd_25 : decode prog_150_method_2_code 25 = .ok (.getfield 42, 3) := by decide +kernel
theorem dfd_28 : decode prog_150_method_2_code 28 = .ok (.iload_n 1, 1) := by decide +kernel
theorem dfd_29 : decode prog_150_method_2_code 29 = .ok (.if_icmp .ne 27, 3) := by decide +kernel
theorem dfd_32 : decode prog_150_method_2_code 32 = .ok (.aload 5, 2) := by decide +kernel
theorem dfd_34 : decode prog_150_method_2_code 34 = .ok (.getfield 48, 3) := by decide +kernel
theorem dfd_37 : decode prog_150_method_2_code 37 = .ok (.lload_n 2, 1) := by decide +kernel
theorem dfd_38 : decode prog_150_method_2_code 38 = .ok (.lcmp, 1) := by decide +kernel
theorem dfd_39 : decode prog_150_method_2_code 39 = .ok (.ifCond .gt 17, 3) := by decide +kernel
theorem dfd_42 : decode prog_150_method_2_code 42 = .ok (.aload 5, 2) := by decide +kernel
theorem dfd_44 : decode prog_150_method_2_code 44 = .ok (.astore 4, 2) := by decide +kernel
theorem dfd_46 : decode prog_150_method_2_code 46 = .ok (.aload 5, 2) := by decide +kernel
theorem dfd_48 : decode prog_150_method_2_code 48 = .ok (.getfield 52, 3) := by decide +kernel
theorem dfd_51 : decode prog_150_method_2_code 51 = .ok (.astore 5, 2) := by decide +kernel
theorem dfd_53 : decode prog_150_method_2_code 53 = .ok (.goto (-44), 3) := by decide +kernel
theorem dfd_56 : decode prog_150_method_2_code 56 = .ok (.aload 5, 2) := by decide +kernel
theorem dfd_58 : decode prog_150_method_2_code 58 = .ok (.getfield 55, 3) := by decide +kernel
theorem dfd_61 : decode prog_150_method_2_code 61 = .ok (.astore 5, 2) := by decide +kernel
theorem dfd_63 : decode prog_150_method_2_code 63 = .ok (.goto (-54), 3) := by decide +kernel
theorem dfd_66 : decode prog_150_method_2_code 66 = .ok (.aload 4, 2) := by decide +kernel
theorem dfd_68 : decode prog_150_method_2_code 68 = .ok (.ifnull 27, 3) := by decide +kernel
theorem dfd_71 : decode prog_150_method_2_code 71 = .ok (.aload 4, 2) := by decide +kernel
theorem dfd_73 : decode prog_150_method_2_code 73 = .ok (.getfield 42, 3) := by decide +kernel
theorem dfd_76 : decode prog_150_method_2_code 76 = .ok (.iload_n 1, 1) := by decide +kernel
theorem dfd_77 : decode prog_150_method_2_code 77 = .ok (.if_icmp .ne 18, 3) := by decide +kernel
theorem dfd_80 : decode prog_150_method_2_code 80 = .ok (.lload_n 2, 1) := by decide +kernel
theorem dfd_81 : decode prog_150_method_2_code 81 = .ok (.aload 4, 2) := by decide +kernel
theorem dfd_83 : decode prog_150_method_2_code 83 = .ok (.getfield 58, 3) := by decide +kernel
theorem dfd_86 : decode prog_150_method_2_code 86 = .ok (.lcmp, 1) := by decide +kernel
theorem dfd_87 : decode prog_150_method_2_code 87 = .ok (.ifCond .ge 8, 3) := by decide +kernel
theorem dfd_90 : decode prog_150_method_2_code 90 = .ok (.aload 4, 2) := by decide +kernel
theorem dfd_92 : decode prog_150_method_2_code 92 = .ok (.goto 4, 3) := by decide +kernel
theorem dfd_95 : decode prog_150_method_2_code 95 = .ok (.aconst_null, 1) := by decide +kernel
theorem dfd_96 : decode prog_150_method_2_code 96 = .ok (.areturn, 1) := by decide +kernel
theorem ef_fd (mI : MethodId) (reg : Addr) (q : Int32) (r : Int64) : entryFrame mI #[(.ref reg), (.int q), (.long r)] 6 = mkF mI 0 #[.val (.ref reg), .val (.int q), .val (.long r), .second, .unset, .unset] [] := by first | (simp [entryFrame, mkF, argsToLocals, Value.category]; done) | rfl
theorem pn_fd : plainName own_SS = true := by first | decide +kernel | (simp [plainName, overriddenIn]; done)
set_option maxRecDepth 65536 in
set_option maxHeartbeats 40000000 in
theorem rmfd (lL : Launch) (Z : State) (a0 : Array Value) (hw : ∀ d ∈ tables_1, d.before a0 Z = true) (ws : List Jvm.Cond) (reg : Addr) (q : Int32) (r : Int64) (rv : Value) (Lq : List own_R) (h0 : Heap) (n0 : Nat) (Z0 : n0 ≤ h0.size) (F_kept_reg : Fld Z h0 reg own_SS "kept" own_dST rv) (C_t : own_Tr Z h0 3 rv Lq) (S_L : Lq.Pairwise own_bf) :
    MetFree lL (⟨own_SS, "find", "(IJ)Lcom/example/tierfold/tierfold/tiered/SharedTail;"⟩ : MethodName) (head1 (Jvm.Cond.code (⟨own_SS, "find", "(IJ)Lcom/example/tierfold/tierfold/tiered/SharedTail;"⟩ : MethodName) prog_150_method_2_code 6 (some (.object own_ST)) :: ws) ({ frames := 0, cells := 0, slots := 0, locals := 0 } : Room)) (fun a_ U_ => a_ = #[(.ref reg), (.int q), (.long r)] ∧ Z.Warmed39 U_.vm ∧ U_.heap = h0) (fun _ _ _ _ _ => True) (fun _ U_ o_ W_ => ∃ v_ L_, o_ = .returned v_ ∧ own_QR (own_fd q r (own_best q r none Lq)) h0 n0 v_ W_.heap L_ ∧ FrameEnd U_ o_ W_ L_ ({ frames := 0, cells := 0, slots := 0, locals := 0 } : Room).cells ({ frames := 0, cells := 0, slots := 0, locals := 0 } : Room).slots) := by
  refine MetFree.of_bodySF (plainFor_of_name pn_fd) hisR ?_
  intro pP eE sS mI args below meth cC s₁ Bd hml0 hP hK
  obtain ⟨rfl, hZ, hh⟩ := hP
  have hx := Bd.exec
  have hby := Bd.bytes
  have hml : cC.maxLocals = 6 := hml0
  have hown : sS.vm.findClass own_SS = some mI.cls := by have z := findClass_of_methodNamed Bd.named; exact z
  have hnm := (name_of_methodNamed Bd.named Bd.method).1
  have X0 : Stand pP lL eE ({ frames := 0, cells := 0, slots := 0, locals := 0 } : Room) sS mI #[(.ref reg), (.int q), (.long r)] below meth cC s₁ [] 0 0 := Stand.of_body Bd
  have e0 : s₁.heap = h0 := by rw [← hh, Bd.state]; rfl
  have N0 := Fr.nil n0
  obtain ⟨G, hG, hst, hend⟩ := own_abs pP eE below sS (own_QR (own_fd q r (own_best q r none Lq)) h0 n0) ({ frames := 0, cells := 0, slots := 0, locals := 0 } : Room).cells ({ frames := 0, cells := 0, slots := 0, locals := 0 } : Room).slots
  refine hG (S := s₁.setTop (entryFrame mI #[(.ref reg), (.int q), (.long r)] 6)) (hst (fun t_ kt_ => castTop (ef_fd mI reg q r) kt_) ?_)
  have hrv := own_Tr_ref C_t
  show G (s₁.setTop (mkF mI 0 #[.val (.ref reg), .val (.int q), .val (.long r), .second, .unset, .unset] []))
  refine o_aconstNull hst X0.here hx (hb hby dfd_0) (pc' := 1) rfl ?_
  refine o_astore hst X0.here hx (hb hby dfd_1) (pc' := 3) rfl (Lt := #[.val (.ref reg), .val (.int q), .val (.long r), .second, .val .null, .unset]) rfl rfl ?_
  refine o_aloadN hst X0.here hx (hb hby dfd_3) (pc' := 4) rfl rfl rfl ?_
  obtain ⟨T_1, X_1, e_1, st_1⟩ := getF X0 hx hZ hown (host := "") (Or.inl (own_w123 hw)) Via.refl e0 F_kept_reg (g := (mkF mI 4 #[.val (.ref reg), .val (.int q), .val (.long r), .second, .val .null, .unset] [(.ref reg)])) rfl rfl (hb hby dfd_4)
  refine hst st_1 ?_
  show G (T_1.setTop (mkF mI 7 #[.val (.ref reg), .val (.int q), .val (.long r), .second, .val .null, .unset] [rv]))
  refine o_astore hst X_1.here hx (hb hby dfd_7) (pc' := 9) rfl (Lt := #[.val (.ref reg), .val (.int q), .val (.long r), .second, .val .null, .val rv]) hrv (by rcases ref_cases hrv with q0 | ⟨_, q0⟩ <;> subst q0 <;> rfl) ?_
  have J66 : ∀ (bv : Value) (bo : Option own_R) (Tj_2 : State) (lj_2 : List Loc) (Xj_2 : Stand pP lL eE ({ frames := 0, cells := 0, slots := 0, locals := 0 } : Room) sS mI #[(.ref reg), (.int q), (.long r)] below meth cC Tj_2 lj_2 0 0) (ej_2 : Tj_2.heap = h0) (Nj_2 : Fr n0 lj_2) (hbo : own_B Z h0 bv bo) (he : bo = own_best q r none Lq), G (Tj_2.setTop (mkF mI 66 #[.val (.ref reg), .val (.int q), .val (.long r), .second, .val bv, .val .null] [])) := by
    intro bv bo Tj_2 lj_2 Xj_2 ej_2 Nj_2 hbo he
    show G (Tj_2.setTop (mkF mI 66 #[.val (.ref reg), .val (.int q), .val (.long r), .second, .val bv, .val .null] []))
    rcases hbo with ⟨rfl, rfl⟩ | ⟨a, pa, la, ga, rfl, rfl, ⟨E_a, F_places_a, F_low_a, F_high_a, F_firstRun_a, zk_a, F_kept_a⟩⟩
    ·
      show G (Tj_2.setTop (mkF mI 66 #[.val (.ref reg), .val (.int q), .val (.long r), .second, .val .null, .val .null] []))
      refine o_aload hst Xj_2.here hx (hb hby dfd_66) (pc' := 68) rfl rfl rfl ?_
      refine hst (fun _ kt => XS.ifnullYes Xj_2.here hx rfl (pc0 := 68) (pc' := 95) rfl (hb hby dfd_68) rfl (by decide) (by decide) kt) ?_
      show G (Tj_2.setTop (mkF mI 95 #[.val (.ref reg), .val (.int q), .val (.long r), .second, .val .null, .val .null] []))
      refine o_aconstNull hst Xj_2.here hx (hb hby dfd_95) (pc' := 96) rfl ?_
      exact hend (own_goRet Xj_2 hx Bd.returns rfl (Or.inr (Or.inr (Or.inr (Or.inr ⟨rfl, rfl, rfl⟩)))) (hb hby dfd_96) Bd.notSynchronized (by rw [ej_2]; exact ⟨by rw [← he]; rfl, Nj_2, rfl⟩) (by decide) (by decide))
    ·
      show G (Tj_2.setTop (mkF mI 66 #[.val (.ref reg), .val (.int q), .val (.long r), .second, .val (.ref a), .val .null] []))
      refine o_aload hst Xj_2.here hx (hb hby dfd_66) (pc' := 68) rfl rfl rfl ?_
      refine hst (fun _ kt => XS.ifnullNo Xj_2.here hx rfl (hb hby dfd_68) rfl kt) ?_
      show G (Tj_2.setTop (mkF mI 71 #[.val (.ref reg), .val (.int q), .val (.long r), .second, .val (.ref a), .val .null] []))
      refine o_aload hst Xj_2.here hx (hb hby dfd_71) (pc' := 73) rfl rfl rfl ?_
      obtain ⟨T_3, X_3, e_3, st_3⟩ := getF Xj_2 hx hZ hown (host := "") (Or.inl (own_w185 hw)) Via.refl ej_2 F_places_a (g := (mkF mI 73 #[.val (.ref reg), .val (.int q), .val (.long r), .second, .val (.ref a), .val .null] [(.ref a)])) rfl rfl (hb hby dfd_73)
      refine hst st_3 ?_
      show G (T_3.setTop (mkF mI 76 #[.val (.ref reg), .val (.int q), .val (.long r), .second, .val (.ref a), .val .null] [(.int pa)]))
      refine o_iloadN hst X_3.here hx (hb hby dfd_76) (pc' := 77) rfl rfl ?_
      by_cases h1 : pa = q
      ·
        refine hst (fun _ kt => XS.icmpNo X_3.here hx rfl (hb hby dfd_77) rfl (teq h1).2 kt) ?_
        show G (T_3.setTop (mkF mI 80 #[.val (.ref reg), .val (.int q), .val (.long r), .second, .val (.ref a), .val .null] []))
        refine o_lloadN hst X_3.here hx (hb hby dfd_80) (pc' := 81) rfl rfl ?_
        refine o_aload hst X_3.here hx (hb hby dfd_81) (pc' := 83) rfl rfl rfl ?_
        obtain ⟨T_4, X_4, e_4, st_4⟩ := getF X_3 hx hZ hown (host := "") (Or.inl (own_w194 hw)) Via.refl e_3 F_high_a (g := (mkF mI 83 #[.val (.ref reg), .val (.int q), .val (.long r), .second, .val (.ref a), .val .null] [(.ref a), (.long r)])) rfl rfl (hb hby dfd_83)
        refine hst st_4 ?_
        show G (T_4.setTop (mkF mI 86 #[.val (.ref reg), .val (.int q), .val (.long r), .second, .val (.ref a), .val .null] [(.long ga), (.long r)]))
        refine o_lcmp hst X_4.here hx (hb hby dfd_86) (pc' := 87) rfl ?_
        by_cases h2 : r < ga
        ·
          refine hst (fun _ kt => XS.ifNo X_4.here hx rfl (hb hby dfd_87) rfl ((if0 _ _).trans (tlt ((lw_lt _ _).mpr h2)).2.1) kt) ?_
          show G (T_4.setTop (mkF mI 90 #[.val (.ref reg), .val (.int q), .val (.long r), .second, .val (.ref a), .val .null] []))
          refine o_aload hst X_4.here hx (hb hby dfd_90) (pc' := 92) rfl rfl rfl ?_
          refine o_goto hst X_4.here hx (hb hby dfd_92) (by decide) (pc' := 96) (by decide) ?_
          exact hend (own_goRet X_4 hx Bd.returns rfl (Or.inr (Or.inr (Or.inr (Or.inr ⟨rfl, rfl, rfl⟩)))) (hb hby dfd_96) Bd.notSynchronized (by rw [e_4]; exact ⟨by rw [← he]; show some (Value.ref a) = some (if pa = q ∧ r < ga then Value.ref a else Value.null); rw [if_pos ⟨h1, h2⟩], Nj_2, rfl⟩) (by decide) (by decide))
        ·
          refine hst (fun _ kt => XS.ifYes X_4.here hx rfl (pc0 := 87) (pc' := 95) rfl (hb hby dfd_87) rfl ((if0 _ _).trans (flt (mt (lw_lt _ _).mp h2)).2.1) (by decide) (by decide) kt) ?_
          show G (T_4.setTop (mkF mI 95 #[.val (.ref reg), .val (.int q), .val (.long r), .second, .val (.ref a), .val .null] []))
          refine o_aconstNull hst X_4.here hx (hb hby dfd_95) (pc' := 96) rfl ?_
          exact hend (own_goRet X_4 hx Bd.returns rfl (Or.inr (Or.inr (Or.inr (Or.inr ⟨rfl, rfl, rfl⟩)))) (hb hby dfd_96) Bd.notSynchronized (by rw [e_4]; exact ⟨by rw [← he]; show some Value.null = some (if pa = q ∧ r < ga then Value.ref a else Value.null); rw [if_neg (fun z => h2 z.2)], Nj_2, rfl⟩) (by decide) (by decide))
      ·
        refine hst (fun _ kt => XS.icmpYes X_3.here hx rfl (pc0 := 77) (pc' := 95) rfl (hb hby dfd_77) rfl (feq h1).2 (by decide) (by decide) kt) ?_
        show G (T_3.setTop (mkF mI 95 #[.val (.ref reg), .val (.int q), .val (.long r), .second, .val (.ref a), .val .null] []))
        refine o_aconstNull hst X_3.here hx (hb hby dfd_95) (pc' := 96) rfl ?_
        exact hend (own_goRet X_3 hx Bd.returns rfl (Or.inr (Or.inr (Or.inr (Or.inr ⟨rfl, rfl, rfl⟩)))) (hb hby dfd_96) Bd.notSynchronized (by rw [e_3]; exact ⟨by rw [← he]; show some Value.null = some (if pa = q ∧ r < ga then Value.ref a else Value.null); rw [if_neg (fun z => h1 z.1)], Nj_2, rfl⟩) (by decide) (by decide))
  have K0 : ∀ (bv : Value) (cv : Value) (bo : Option own_R) (Lj : List own_R) (Tj_5 : State) (lj_5 : List Loc) (Xj_5 : Stand pP lL eE ({ frames := 0, cells := 0, slots := 0, locals := 0 } : Room) sS mI #[(.ref reg), (.int q), (.long r)] below meth cC Tj_5 lj_5 0 0) (ej_5 : Tj_5.heap = h0) (Nj_5 : Fr n0 lj_5) (hbo : own_B Z h0 bv bo) (hc : own_Tr Z h0 0 cv Lj) (hs : Lj.Pairwise own_bf) (he : own_best q r bo Lj = own_best q r none Lq), G (Tj_5.setTop (mkF mI 9 #[.val (.ref reg), .val (.int q), .val (.long r), .second, .val bv, .val cv] [])) := by
    intro bv cv bo Lj Tj_5 lj_5 Xj_5 ej_5 Nj_5 hbo hc hs he
    show G (Tj_5.setTop (mkF mI 9 #[.val (.ref reg), .val (.int q), .val (.long r), .second, .val bv, .val cv] []))
    obtain ⟨rfl, rfl⟩ := own_Tr_0 hc
    show G (Tj_5.setTop (mkF mI 9 #[.val (.ref reg), .val (.int q), .val (.long r), .second, .val bv, .val .null] []))
    refine o_aload hst Xj_5.here hx (hb hby dfd_9) (pc' := 11) rfl rfl rfl ?_
    refine hst (fun _ kt => XS.ifnullYes Xj_5.here hx rfl (pc0 := 11) (pc' := 66) rfl (hb hby dfd_11) rfl (by decide) (by decide) kt) ?_
    show G (Tj_5.setTop (mkF mI 66 #[.val (.ref reg), .val (.int q), .val (.long r), .second, .val bv, .val .null] []))
    exact J66 _ _ Tj_5 _ Xj_5 ej_5 Nj_5 hbo he
  have K1 : ∀ (bv : Value) (cv : Value) (bo : Option own_R) (Lj : List own_R) (Tj_6 : State) (lj_6 : List Loc) (Xj_6 : Stand pP lL eE ({ frames := 0, cells := 0, slots := 0, locals := 0 } : Room) sS mI #[(.ref reg), (.int q), (.long r)] below meth cC Tj_6 lj_6 0 0) (ej_6 : Tj_6.heap = h0) (Nj_6 : Fr n0 lj_6) (hbo : own_B Z h0 bv bo) (hc : own_Tr Z h0 1 cv Lj) (hs : Lj.Pairwise own_bf) (he : own_best q r bo Lj = own_best q r none Lq), G (Tj_6.setTop (mkF mI 9 #[.val (.ref reg), .val (.int q), .val (.long r), .second, .val bv, .val cv] [])) := by
    intro bv cv bo Lj Tj_6 lj_6 Xj_6 ej_6 Nj_6 hbo hc hs he
    show G (Tj_6.setTop (mkF mI 9 #[.val (.ref reg), .val (.int q), .val (.long r), .second, .val bv, .val cv] []))
    have hbv := own_B_ref hbo
    rcases own_Tr_S hc with ⟨rfl, rfl⟩ | ⟨a, pa, la, ga, vl, vr, L1, L2, rfl, rfl, N_a, ⟨F_keptLeft_a, F_keptRight_a⟩, C_l, C_r⟩
    ·
      show G (Tj_6.setTop (mkF mI 9 #[.val (.ref reg), .val (.int q), .val (.long r), .second, .val bv, .val .null] []))
      refine o_aload hst Xj_6.here hx (hb hby dfd_9) (pc' := 11) rfl rfl rfl ?_
      refine hst (fun _ kt => XS.ifnullYes Xj_6.here hx rfl (pc0 := 11) (pc' := 66) rfl (hb hby dfd_11) rfl (by decide) (by decide) kt) ?_
      show G (Tj_6.setTop (mkF mI 66 #[.val (.ref reg), .val (.int q), .val (.long r), .second, .val bv, .val .null] []))
      exact J66 _ _ Tj_6 _ Xj_6 ej_6 Nj_6 hbo he
    ·
      obtain ⟨sA1, sA2, SL1, SL2⟩ := own_S hs
      have hvl := own_Tr_ref C_l
      have hvr := own_Tr_ref C_r
      have N_z := N_a
      obtain ⟨E_a, F_places_a, F_low_a, F_high_a, F_firstRun_a, zk_a, F_kept_a⟩ := N_z
      show G (Tj_6.setTop (mkF mI 9 #[.val (.ref reg), .val (.int q), .val (.long r), .second, .val bv, .val (.ref a)] []))
      refine o_aload hst Xj_6.here hx (hb hby dfd_9) (pc' := 11) rfl rfl rfl ?_
      refine hst (fun _ kt => XS.ifnullNo Xj_6.here hx rfl (hb hby dfd_11) rfl kt) ?_
      show G (Tj_6.setTop (mkF mI 14 #[.val (.ref reg), .val (.int q), .val (.long r), .second, .val bv, .val (.ref a)] []))
      refine o_aload hst Xj_6.here hx (hb hby dfd_14) (pc' := 16) rfl rfl rfl ?_
      obtain ⟨T_7, X_7, e_7, st_7⟩ := getF Xj_6 hx hZ hown (host := "") (Or.inl (own_w185 hw)) Via.refl ej_6 F_places_a (g := (mkF mI 16 #[.val (.ref reg), .val (.int q), .val (.long r), .second, .val bv, .val (.ref a)] [(.ref a)])) rfl rfl (hb hby dfd_16)
      refine hst st_7 ?_
      show G (T_7.setTop (mkF mI 19 #[.val (.ref reg), .val (.int q), .val (.long r), .second, .val bv, .val (.ref a)] [(.int pa)]))
      refine o_iloadN hst X_7.here hx (hb hby dfd_19) (pc' := 20) rfl rfl ?_
      by_cases h1 : pa < q
      ·
        refine hst (fun _ kt => XS.icmpYes X_7.here hx rfl (pc0 := 20) (pc' := 42) rfl (hb hby dfd_20) rfl (tlt h1).1 (by decide) (by decide) kt) ?_
        show G (T_7.setTop (mkF mI 42 #[.val (.ref reg), .val (.int q), .val (.long r), .second, .val bv, .val (.ref a)] []))
        refine o_aload hst X_7.here hx (hb hby dfd_42) (pc' := 44) rfl rfl rfl ?_
        refine o_astore hst X_7.here hx (hb hby dfd_44) (pc' := 46) rfl (Lt := #[.val (.ref reg), .val (.int q), .val (.long r), .second, .val (.ref a), .val (.ref a)]) rfl (by rcases ref_cases hbv with q0 | ⟨_, q0⟩ <;> subst q0 <;> rfl) ?_
        refine o_aload hst X_7.here hx (hb hby dfd_46) (pc' := 48) rfl rfl rfl ?_
        obtain ⟨T_8, X_8, e_8, st_8⟩ := getF X_7 hx hZ hown (host := "") (Or.inl (own_w186 hw)) Via.refl e_7 F_keptRight_a (g := (mkF mI 48 #[.val (.ref reg), .val (.int q), .val (.long r), .second, .val (.ref a), .val (.ref a)] [(.ref a)])) rfl rfl (hb hby dfd_48)
        refine hst st_8 ?_
        show G (T_8.setTop (mkF mI 51 #[.val (.ref reg), .val (.int q), .val (.long r), .second, .val (.ref a), .val (.ref a)] [vr]))
        refine o_astore hst X_8.here hx (hb hby dfd_51) (pc' := 53) rfl (Lt := #[.val (.ref reg), .val (.int q), .val (.long r), .second, .val (.ref a), .val vr]) hvr (by rcases ref_cases hvr with q0 | ⟨_, q0⟩ <;> subst q0 <;> rfl) ?_
        refine o_goto hst X_8.here hx (hb hby dfd_53) (by decide) (pc' := 9) (by decide) ?_
        exact K0 _ _ _ _ T_8 _ X_8 e_8 Nj_6 (Or.inr ⟨a, pa, la, ga, rfl, rfl, N_a⟩) C_r SL2 ((own_best_yes (own_leB_of (x := (a, pa, la, ga)) (Or.inl h1))).symm.trans he)
      ·
        refine hst (fun _ kt => XS.icmpNo X_7.here hx rfl (hb hby dfd_20) rfl (flt h1).1 kt) ?_
        show G (T_7.setTop (mkF mI 23 #[.val (.ref reg), .val (.int q), .val (.long r), .second, .val bv, .val (.ref a)] []))
        refine o_aload hst X_7.here hx (hb hby dfd_23) (pc' := 25) rfl rfl rfl ?_
        obtain ⟨T_9, X_9, e_9, st_9⟩ := getF X_7 hx hZ hown (host := "") (Or.inl (own_w185 hw)) Via.refl e_7 F_places_a (g := (mkF mI 25 #[.val (.ref reg), .val (.int q), .val (.long r), .second, .val bv, .val (.ref a)] [(.ref a)])) rfl rfl (hb hby dfd_25)
        refine hst st_9 ?_
        show G (T_9.setTop (mkF mI 28 #[.val (.ref reg), .val (.int q), .val (.long r), .second, .val bv, .val (.ref a)] [(.int pa)]))
        refine o_iloadN hst X_9.here hx (hb hby dfd_28) (pc' := 29) rfl rfl ?_
        by_cases h2 : pa = q
        ·
          refine hst (fun _ kt => XS.icmpNo X_9.here hx rfl (hb hby dfd_29) rfl (teq h2).2 kt) ?_
          show G (T_9.setTop (mkF mI 32 #[.val (.ref reg), .val (.int q), .val (.long r), .second, .val bv, .val (.ref a)] []))
          refine o_aload hst X_9.here hx (hb hby dfd_32) (pc' := 34) rfl rfl rfl ?_
          obtain ⟨T_10, X_10, e_10, st_10⟩ := getF X_9 hx hZ hown (host := "") (Or.inl (own_w193 hw)) Via.refl e_9 F_low_a (g := (mkF mI 34 #[.val (.ref reg), .val (.int q), .val (.long r), .second, .val bv, .val (.ref a)] [(.ref a)])) rfl rfl (hb hby dfd_34)
          refine hst st_10 ?_
          show G (T_10.setTop (mkF mI 37 #[.val (.ref reg), .val (.int q), .val (.long r), .second, .val bv, .val (.ref a)] [(.long la)]))
          refine o_lloadN hst X_10.here hx (hb hby dfd_37) (pc' := 38) rfl rfl ?_
          refine o_lcmp hst X_10.here hx (hb hby dfd_38) (pc' := 39) rfl ?_
          by_cases h3 : r < la
          ·
            refine hst (fun _ kt => XS.ifYes X_10.here hx rfl (pc0 := 39) (pc' := 56) rfl (hb hby dfd_39) rfl ((if0 _ _).trans (tlt ((lw_gt _ _).mpr h3)).2.2.1) (by decide) (by decide) kt) ?_
            show G (T_10.setTop (mkF mI 56 #[.val (.ref reg), .val (.int q), .val (.long r), .second, .val bv, .val (.ref a)] []))
            refine o_aload hst X_10.here hx (hb hby dfd_56) (pc' := 58) rfl rfl rfl ?_
            obtain ⟨T_11, X_11, e_11, st_11⟩ := getF X_10 hx hZ hown (host := "") (Or.inl (own_w192 hw)) Via.refl e_10 F_keptLeft_a (g := (mkF mI 58 #[.val (.ref reg), .val (.int q), .val (.long r), .second, .val bv, .val (.ref a)] [(.ref a)])) rfl rfl (hb hby dfd_58)
            refine hst st_11 ?_
            show G (T_11.setTop (mkF mI 61 #[.val (.ref reg), .val (.int q), .val (.long r), .second, .val bv, .val (.ref a)] [vl]))
            refine o_astore hst X_11.here hx (hb hby dfd_61) (pc' := 63) rfl (Lt := #[.val (.ref reg), .val (.int q), .val (.long r), .second, .val bv, .val vl]) hvl (by rcases ref_cases hvl with q0 | ⟨_, q0⟩ <;> subst q0 <;> rfl) ?_
            refine o_goto hst X_11.here hx (hb hby dfd_63) (by decide) (pc' := 9) (by decide) ?_
            exact K0 _ _ _ _ T_11 _ X_11 e_11 Nj_6 hbo C_l SL1 ((own_best_no (own_leB_f (x := (a, pa, la, ga)) (fun z => z.elim h1 fun y => y.2 h3)) sA2).symm.trans he)
          ·
            refine hst (fun _ kt => XS.ifNo X_10.here hx rfl (hb hby dfd_39) rfl ((if0 _ _).trans (flt (mt (lw_gt _ _).mp h3)).2.2.1) kt) ?_
            show G (T_10.setTop (mkF mI 42 #[.val (.ref reg), .val (.int q), .val (.long r), .second, .val bv, .val (.ref a)] []))
            refine o_aload hst X_10.here hx (hb hby dfd_42) (pc' := 44) rfl rfl rfl ?_
            refine o_astore hst X_10.here hx (hb hby dfd_44) (pc' := 46) rfl (Lt := #[.val (.ref reg), .val (.int q), .val (.long r), .second, .val (.ref a), .val (.ref a)]) rfl (by rcases ref_cases hbv with q0 | ⟨_, q0⟩ <;> subst q0 <;> rfl) ?_
            refine o_aload hst X_10.here hx (hb hby dfd_46) (pc' := 48) rfl rfl rfl ?_
            obtain ⟨T_12, X_12, e_12, st_12⟩ := getF X_10 hx hZ hown (host := "") (Or.inl (own_w186 hw)) Via.refl e_10 F_keptRight_a (g := (mkF mI 48 #[.val (.ref reg), .val (.int q), .val (.long r), .second, .val (.ref a), .val (.ref a)] [(.ref a)])) rfl rfl (hb hby dfd_48)
            refine hst st_12 ?_
            show G (T_12.setTop (mkF mI 51 #[.val (.ref reg), .val (.int q), .val (.long r), .second, .val (.ref a), .val (.ref a)] [vr]))
            refine o_astore hst X_12.here hx (hb hby dfd_51) (pc' := 53) rfl (Lt := #[.val (.ref reg), .val (.int q), .val (.long r), .second, .val (.ref a), .val vr]) hvr (by rcases ref_cases hvr with q0 | ⟨_, q0⟩ <;> subst q0 <;> rfl) ?_
            refine o_goto hst X_12.here hx (hb hby dfd_53) (by decide) (pc' := 9) (by decide) ?_
            exact K0 _ _ _ _ T_12 _ X_12 e_12 Nj_6 (Or.inr ⟨a, pa, la, ga, rfl, rfl, N_a⟩) C_r SL2 ((own_best_yes (own_leB_of (x := (a, pa, la, ga)) (Or.inr ⟨h2, h3⟩))).symm.trans he)
        ·
          refine hst (fun _ kt => XS.icmpYes X_9.here hx rfl (pc0 := 29) (pc' := 56) rfl (hb hby dfd_29) rfl (feq h2).2 (by decide) (by decide) kt) ?_
          show G (T_9.setTop (mkF mI 56 #[.val (.ref reg), .val (.int q), .val (.long r), .second, .val bv, .val (.ref a)] []))
          refine o_aload hst X_9.here hx (hb hby dfd_56) (pc' := 58) rfl rfl rfl ?_
          obtain ⟨T_13, X_13, e_13, st_13⟩ := getF X_9 hx hZ hown (host := "") (Or.inl (own_w192 hw)) Via.refl e_9 F_keptLeft_a (g := (mkF mI 58 #[.val (.ref reg), .val (.int q), .val (.long r), .second, .val bv, .val (.ref a)] [(.ref a)])) rfl rfl (hb hby dfd_58)
          refine hst st_13 ?_
          show G (T_13.setTop (mkF mI 61 #[.val (.ref reg), .val (.int q), .val (.long r), .second, .val bv, .val (.ref a)] [vl]))
          refine o_astore hst X_13.here hx (hb hby dfd_61) (pc' := 63) rfl (Lt := #[.val (.ref reg), .val (.int q), .val (.long r), .second, .val bv, .val vl]) hvl (by rcases ref_cases hvl with q0 | ⟨_, q0⟩ <;> subst q0 <;> rfl) ?_
          refine o_goto hst X_13.here hx (hb hby dfd_63) (by decide) (pc' := 9) (by decide) ?_
          exact K0 _ _ _ _ T_13 _ X_13 e_13 Nj_6 hbo C_l SL1 ((own_best_no (own_leB_f (x := (a, pa, la, ga)) (fun z => z.elim h1 fun y => h2 y.1)) sA2).symm.trans he)
  have K2 : ∀ (bv : Value) (cv : Value) (bo : Option own_R) (Lj : List own_R) (Tj_14 : State) (lj_14 : List Loc) (Xj_14 : Stand pP lL eE ({ frames := 0, cells := 0, slots := 0, locals := 0 } : Room) sS mI #[(.ref reg), (.int q), (.long r)] below meth cC Tj_14 lj_14 0 0) (ej_14 : Tj_14.heap = h0) (Nj_14 : Fr n0 lj_14) (hbo : own_B Z h0 bv bo) (hc : own_Tr Z h0 2 cv Lj) (hs : Lj.Pairwise own_bf) (he : own_best q r bo Lj = own_best q r none Lq), G (Tj_14.setTop (mkF mI 9 #[.val (.ref reg), .val (.int q), .val (.long r), .second, .val bv, .val cv] [])) := by
    intro bv cv bo Lj Tj_14 lj_14 Xj_14 ej_14 Nj_14 hbo hc hs he
    show G (Tj_14.setTop (mkF mI 9 #[.val (.ref reg), .val (.int q), .val (.long r), .second, .val bv, .val cv] []))
    have hbv := own_B_ref hbo
    rcases own_Tr_S hc with ⟨rfl, rfl⟩ | ⟨a, pa, la, ga, vl, vr, L1, L2, rfl, rfl, N_a, ⟨F_keptLeft_a, F_keptRight_a⟩, C_l, C_r⟩
    ·
      show G (Tj_14.setTop (mkF mI 9 #[.val (.ref reg), .val (.int q), .val (.long r), .second, .val bv, .val .null] []))
      refine o_aload hst Xj_14.here hx (hb hby dfd_9) (pc' := 11) rfl rfl rfl ?_
      refine hst (fun _ kt => XS.ifnullYes Xj_14.here hx rfl (pc0 := 11) (pc' := 66) rfl (hb hby dfd_11) rfl (by decide) (by decide) kt) ?_
      show G (Tj_14.setTop (mkF mI 66 #[.val (.ref reg), .val (.int q), .val (.long r), .second, .val bv, .val .null] []))
      exact J66 _ _ Tj_14 _ Xj_14 ej_14 Nj_14 hbo he
    ·
      obtain ⟨sA1, sA2, SL1, SL2⟩ := own_S hs
      have hvl := own_Tr_ref C_l
      have hvr := own_Tr_ref C_r
      have N_z := N_a
      obtain ⟨E_a, F_places_a, F_low_a, F_high_a, F_firstRun_a, zk_a, F_kept_a⟩ := N_z
      show G (Tj_14.setTop (mkF mI 9 #[.val (.ref reg), .val (.int q), .val (.long r), .second, .val bv, .val (.ref a)] []))
      refine o_aload hst Xj_14.here hx (hb hby dfd_9) (pc' := 11) rfl rfl rfl ?_
      refine hst (fun _ kt => XS.ifnullNo Xj_14.here hx rfl (hb hby dfd_11) rfl kt) ?_
      show G (Tj_14.setTop (mkF mI 14 #[.val (.ref reg), .val (.int q), .val (.long r), .second, .val bv, .val (.ref a)] []))
      refine o_aload hst Xj_14.here hx (hb hby dfd_14) (pc' := 16) rfl rfl rfl ?_
      obtain ⟨T_15, X_15, e_15, st_15⟩ := getF Xj_14 hx hZ hown (host := "") (Or.inl (own_w185 hw)) Via.refl ej_14 F_places_a (g := (mkF mI 16 #[.val (.ref reg), .val (.int q), .val (.long r), .second, .val bv, .val (.ref a)] [(.ref a)])) rfl rfl (hb hby dfd_16)
      refine hst st_15 ?_
      show G (T_15.setTop (mkF mI 19 #[.val (.ref reg), .val (.int q), .val (.long r), .second, .val bv, .val (.ref a)] [(.int pa)]))
      refine o_iloadN hst X_15.here hx (hb hby dfd_19) (pc' := 20) rfl rfl ?_
      by_cases h1 : pa < q
      ·
        refine hst (fun _ kt => XS.icmpYes X_15.here hx rfl (pc0 := 20) (pc' := 42) rfl (hb hby dfd_20) rfl (tlt h1).1 (by decide) (by decide) kt) ?_
        show G (T_15.setTop (mkF mI 42 #[.val (.ref reg), .val (.int q), .val (.long r), .second, .val bv, .val (.ref a)] []))
        refine o_aload hst X_15.here hx (hb hby dfd_42) (pc' := 44) rfl rfl rfl ?_
        refine o_astore hst X_15.here hx (hb hby dfd_44) (pc' := 46) rfl (Lt := #[.val (.ref reg), .val (.int q), .val (.long r), .second, .val (.ref a), .val (.ref a)]) rfl (by rcases ref_cases hbv with q0 | ⟨_, q0⟩ <;> subst q0 <;> rfl) ?_
        refine o_aload hst X_15.here hx (hb hby dfd_46) (pc' := 48) rfl rfl rfl ?_
        obtain ⟨T_16, X_16, e_16, st_16⟩ := getF X_15 hx hZ hown (host := "") (Or.inl (own_w186 hw)) Via.refl e_15 F_keptRight_a (g := (mkF mI 48 #[.val (.ref reg), .val (.int q), .val (.long r), .second, .val (.ref a), .val (.ref a)] [(.ref a)])) rfl rfl (hb hby dfd_48)
        refine hst st_16 ?_
        show G (T_16.setTop (mkF mI 51 #[.val (.ref reg), .val (.int q), .val (.long r), .second, .val (.ref a), .val (.ref a)] [vr]))
        refine o_astore hst X_16.here hx (hb hby dfd_51) (pc' := 53) rfl (Lt := #[.val (.ref reg), .val (.int q), .val (.long r), .second, .val (.ref a), .val vr]) hvr (by rcases ref_cases hvr with q0 | ⟨_, q0⟩ <;> subst q0 <;> rfl) ?_
        refine o_goto hst X_16.here hx (hb hby dfd_53) (by decide) (pc' := 9) (by decide) ?_
        exact K1 _ _ _ _ T_16 _ X_16 e_16 Nj_14 (Or.inr ⟨a, pa, la, ga, rfl, rfl, N_a⟩) C_r SL2 ((own_best_yes (own_leB_of (x := (a, pa, la, ga)) (Or.inl h1))).symm.trans he)
      ·
        refine hst (fun _ kt => XS.icmpNo X_15.here hx rfl (hb hby dfd_20) rfl (flt h1).1 kt) ?_
        show G (T_15.setTop (mkF mI 23 #[.val (.ref reg), .val (.int q), .val (.long r), .second, .val bv, .val (.ref a)] []))
        refine o_aload hst X_15.here hx (hb hby dfd_23) (pc' := 25) rfl rfl rfl ?_
        obtain ⟨T_17, X_17, e_17, st_17⟩ := getF X_15 hx hZ hown (host := "") (Or.inl (own_w185 hw)) Via.refl e_15 F_places_a (g := (mkF mI 25 #[.val (.ref reg), .val (.int q), .val (.long r), .second, .val bv, .val (.ref a)] [(.ref a)])) rfl rfl (hb hby dfd_25)
        refine hst st_17 ?_
        show G (T_17.setTop (mkF mI 28 #[.val (.ref reg), .val (.int q), .val (.long r), .second, .val bv, .val (.ref a)] [(.int pa)]))
        refine o_iloadN hst X_17.here hx (hb hby dfd_28) (pc' := 29) rfl rfl ?_
        by_cases h2 : pa = q
        ·
          refine hst (fun _ kt => XS.icmpNo X_17.here hx rfl (hb hby dfd_29) rfl (teq h2).2 kt) ?_
          show G (T_17.setTop (mkF mI 32 #[.val (.ref reg), .val (.int q), .val (.long r), .second, .val bv, .val (.ref a)] []))
          refine o_aload hst X_17.here hx (hb hby dfd_32) (pc' := 34) rfl rfl rfl ?_
          obtain ⟨T_18, X_18, e_18, st_18⟩ := getF X_17 hx hZ hown (host := "") (Or.inl (own_w193 hw)) Via.refl e_17 F_low_a (g := (mkF mI 34 #[.val (.ref reg), .val (.int q), .val (.long r), .second, .val bv, .val (.ref a)] [(.ref a)])) rfl rfl (hb hby dfd_34)
          refine hst st_18 ?_
          show G (T_18.setTop (mkF mI 37 #[.val (.ref reg), .val (.int q), .val (.long r), .second, .val bv, .val (.ref a)] [(.long la)]))
          refine o_lloadN hst X_18.here hx (hb hby dfd_37) (pc' := 38) rfl rfl ?_
          refine o_lcmp hst X_18.here hx (hb hby dfd_38) (pc' := 39) rfl ?_
          by_cases h3 : r < la
          ·
            refine hst (fun _ kt => XS.ifYes X_18.here hx rfl (pc0 := 39) (pc' := 56) rfl (hb hby dfd_39) rfl ((if0 _ _).trans (tlt ((lw_gt _ _).mpr h3)).2.2.1) (by decide) (by decide) kt) ?_
            show G (T_18.setTop (mkF mI 56 #[.val (.ref reg), .val (.int q), .val (.long r), .second, .val bv, .val (.ref a)] []))
            refine o_aload hst X_18.here hx (hb hby dfd_56) (pc' := 58) rfl rfl rfl ?_
            obtain ⟨T_19, X_19, e_19, st_19⟩ := getF X_18 hx hZ hown (host := "") (Or.inl (own_w192 hw)) Via.refl e_18 F_keptLeft_a (g := (mkF mI 58 #[.val (.ref reg), .val (.int q), .val (.long r), .second, .val bv, .val (.ref a)] [(.ref a)])) rfl rfl (hb hby dfd_58)
            refine hst st_19 ?_
            show G (T_19.setTop (mkF mI 61 #[.val (.ref reg), .val (.int q), .val (.long r), .second, .val bv, .val (.ref a)] [vl]))
            refine o_astore hst X_19.here hx (hb hby dfd_61) (pc' := 63) rfl (Lt := #[.val (.ref reg), .val (.int q), .val (.long r), .second, .val bv, .val vl]) hvl (by rcases ref_cases hvl with q0 | ⟨_, q0⟩ <;> subst q0 <;> rfl) ?_
            refine o_goto hst X_19.here hx (hb hby dfd_63) (by decide) (pc' := 9) (by decide) ?_
            exact K1 _ _ _ _ T_19 _ X_19 e_19 Nj_14 hbo C_l SL1 ((own_best_no (own_leB_f (x := (a, pa, la, ga)) (fun z => z.elim h1 fun y => y.2 h3)) sA2).symm.trans he)
          ·
            refine hst (fun _ kt => XS.ifNo X_18.here hx rfl (hb hby dfd_39) rfl ((if0 _ _).trans (flt (mt (lw_gt _ _).mp h3)).2.2.1) kt) ?_
            show G (T_18.setTop (mkF mI 42 #[.val (.ref reg), .val (.int q), .val (.long r), .second, .val bv, .val (.ref a)] []))
            refine o_aload hst X_18.here hx (hb hby dfd_42) (pc' := 44) rfl rfl rfl ?_
            refine o_astore hst X_18.here hx (hb hby dfd_44) (pc' := 46) rfl (Lt := #[.val (.ref reg), .val (.int q), .val (.long r), .second, .val (.ref a), .val (.ref a)]) rfl (by rcases ref_cases hbv with q0 | ⟨_, q0⟩ <;> subst q0 <;> rfl) ?_
            refine o_aload hst X_18.here hx (hb hby dfd_46) (pc' := 48) rfl rfl rfl ?_
            obtain ⟨T_20, X_20, e_20, st_20⟩ := getF X_18 hx hZ hown (host := "") (Or.inl (own_w186 hw)) Via.refl e_18 F_keptRight_a (g := (mkF mI 48 #[.val (.ref reg), .val (.int q), .val (.long r), .second, .val (.ref a), .val (.ref a)] [(.ref a)])) rfl rfl (hb hby dfd_48)
            refine hst st_20 ?_
            show G (T_20.setTop (mkF mI 51 #[.val (.ref reg), .val (.int q), .val (.long r), .second, .val (.ref a), .val (.ref a)] [vr]))
            refine o_astore hst X_20.here hx (hb hby dfd_51) (pc' := 53) rfl (Lt := #[.val (.ref reg), .val (.int q), .val (.long r), .second, .val (.ref a), .val vr]) hvr (by rcases ref_cases hvr with q0 | ⟨_, q0⟩ <;> subst q0 <;> rfl) ?_
            refine o_goto hst X_20.here hx (hb hby dfd_53) (by decide) (pc' := 9) (by decide) ?_
            exact K1 _ _ _ _ T_20 _ X_20 e_20 Nj_14 (Or.inr ⟨a, pa, la, ga, rfl, rfl, N_a⟩) C_r SL2 ((own_best_yes (own_leB_of (x := (a, pa, la, ga)) (Or.inr ⟨h2, h3⟩))).symm.trans he)
        ·
          refine hst (fun _ kt => XS.icmpYes X_17.here hx rfl (pc0 := 29) (pc' := 56) rfl (hb hby dfd_29) rfl (feq h2).2 (by decide) (by decide) kt) ?_
          show G (T_17.setTop (mkF mI 56 #[.val (.ref reg), .val (.int q), .val (.long r), .second, .val bv, .val (.ref a)] []))
          refine o_aload hst X_17.here hx (hb hby dfd_56) (pc' := 58) rfl rfl rfl ?_
          obtain ⟨T_21, X_21, e_21, st_21⟩ := getF X_17 hx hZ hown (host := "") (Or.inl (own_w192 hw)) Via.refl e_17 F_keptLeft_a (g := (mkF mI 58 #[.val (.ref reg), .val (.int q), .val (.long r), .second, .val bv, .val (.ref a)] [(.ref a)])) rfl rfl (hb hby dfd_58)
          refine hst st_21 ?_
          show G (T_21.setTop (mkF mI 61 #[.val (.ref reg), .val (.int q), .val (.long r), .second, .val bv, .val (.ref a)] [vl]))
          refine o_astore hst X_21.here hx (hb hby dfd_61) (pc' := 63) rfl (Lt := #[.val (.ref reg), .val (.int q), .val (.long r), .second, .val bv, .val vl]) hvl (by rcases ref_cases hvl with q0 | ⟨_, q0⟩ <;> subst q0 <;> rfl) ?_
          refine o_goto hst X_21.here hx (hb hby dfd_63) (by decide) (pc' := 9) (by decide) ?_
          exact K1 _ _ _ _ T_21 _ X_21 e_21 Nj_14 hbo C_l SL1 ((own_best_no (own_leB_f (x := (a, pa, la, ga)) (fun z => z.elim h1 fun y => h2 y.1)) sA2).symm.trans he)
  have K3 : ∀ (bv : Value) (cv : Value) (bo : Option own_R) (Lj : List own_R) (Tj_22 : State) (lj_22 : List Loc) (Xj_22 : Stand pP lL eE ({ frames := 0, cells := 0, slots := 0, locals := 0 } : Room) sS mI #[(.ref reg), (.int q), (.long r)] below meth cC Tj_22 lj_22 0 0) (ej_22 : Tj_22.heap = h0) (Nj_22 : Fr n0 lj_22) (hbo : own_B Z h0 bv bo) (hc : own_Tr Z h0 3 cv Lj) (hs : Lj.Pairwise own_bf) (he : own_best q r bo Lj = own_best q r none Lq), G (Tj_22.setTop (mkF mI 9 #[.val (.ref reg), .val (.int q), .val (.long r), .second, .val bv, .val cv] [])) := by
    intro bv cv bo Lj Tj_22 lj_22 Xj_22 ej_22 Nj_22 hbo hc hs he
    show G (Tj_22.setTop (mkF mI 9 #[.val (.ref reg), .val (.int q), .val (.long r), .second, .val bv, .val cv] []))
    have hbv := own_B_ref hbo
    rcases own_Tr_S hc with ⟨rfl, rfl⟩ | ⟨a, pa, la, ga, vl, vr, L1, L2, rfl, rfl, N_a, ⟨F_keptLeft_a, F_keptRight_a⟩, C_l, C_r⟩
    ·
      show G (Tj_22.setTop (mkF mI 9 #[.val (.ref reg), .val (.int q), .val (.long r), .second, .val bv, .val .null] []))
      refine o_aload hst Xj_22.here hx (hb hby dfd_9) (pc' := 11) rfl rfl rfl ?_
      refine hst (fun _ kt => XS.ifnullYes Xj_22.here hx rfl (pc0 := 11) (pc' := 66) rfl (hb hby dfd_11) rfl (by decide) (by decide) kt) ?_
      show G (Tj_22.setTop (mkF mI 66 #[.val (.ref reg), .val (.int q), .val (.long r), .second, .val bv, .val .null] []))
      exact J66 _ _ Tj_22 _ Xj_22 ej_22 Nj_22 hbo he
    ·
      obtain ⟨sA1, sA2, SL1, SL2⟩ := own_S hs
      have hvl := own_Tr_ref C_l
      have hvr := own_Tr_ref C_r
      have N_z := N_a
      obtain ⟨E_a, F_places_a, F_low_a, F_high_a, F_firstRun_a, zk_a, F_kept_a⟩ := N_z
      show G (Tj_22.setTop (mkF mI 9 #[.val (.ref reg), .val (.int q), .val (.long r), .second, .val bv, .val (.ref a)] []))
      refine o_aload hst Xj_22.here hx (hb hby dfd_9) (pc' := 11) rfl rfl rfl ?_
      refine hst (fun _ kt => XS.ifnullNo Xj_22.here hx rfl (hb hby dfd_11) rfl kt) ?_
      show G (Tj_22.setTop (mkF mI 14 #[.val (.ref reg), .val (.int q), .val (.long r), .second, .val bv, .val (.ref a)] []))
      refine o_aload hst Xj_22.here hx (hb hby dfd_14) (pc' := 16) rfl rfl rfl ?_
      obtain ⟨T_23, X_23, e_23, st_23⟩ := getF Xj_22 hx hZ hown (host := "") (Or.inl (own_w185 hw)) Via.refl ej_22 F_places_a (g := (mkF mI 16 #[.val (.ref reg), .val (.int q), .val (.long r), .second, .val bv, .val (.ref a)] [(.ref a)])) rfl rfl (hb hby dfd_16)
      refine hst st_23 ?_
      show G (T_23.setTop (mkF mI 19 #[.val (.ref reg), .val (.int q), .val (.long r), .second, .val bv, .val (.ref a)] [(.int pa)]))
      refine o_iloadN hst X_23.here hx (hb hby dfd_19) (pc' := 20) rfl rfl ?_
      by_cases h1 : pa < q
      ·
        refine hst (fun _ kt => XS.icmpYes X_23.here hx rfl (pc0 := 20) (pc' := 42) rfl (hb hby dfd_20) rfl (tlt h1).1 (by decide) (by decide) kt) ?_
        show G (T_23.setTop (mkF mI 42 #[.val (.ref reg), .val (.int q), .val (.long r), .second, .val bv, .val (.ref a)] []))
        refine o_aload hst X_23.here hx (hb hby dfd_42) (pc' := 44) rfl rfl rfl ?_
        refine o_astore hst X_23.here hx (hb hby dfd_44) (pc' := 46) rfl (Lt := #[.val (.ref reg), .val (.int q), .val (.long r), .second, .val (.ref a), .val (.ref a)]) rfl (by rcases ref_cases hbv with q0 | ⟨_, q0⟩ <;> subst q0 <;> rfl) ?_
        refine o_aload hst X_23.here hx (hb hby dfd_46) (pc' := 48) rfl rfl rfl ?_
        obtain ⟨T_24, X_24, e_24, st_24⟩ := getF X_23 hx hZ hown (host := "") (Or.inl (own_w186 hw)) Via.refl e_23 F_keptRight_a (g := (mkF mI 48 #[.val (.ref reg), .val (.int q), .val (.long r), .second, .val (.ref a), .val (.ref a)] [(.ref a)])) rfl rfl (hb hby dfd_48)
        refine hst st_24 ?_
        show G (T_24.setTop (mkF mI 51 #[.val (.ref reg), .val (.int q), .val (.long r), .second, .val (.ref a), .val (.ref a)] [vr]))
        refine o_astore hst X_24.here hx (hb hby dfd_51) (pc' := 53) rfl (Lt := #[.val (.ref reg), .val (.int q), .val (.long r), .second, .val (.ref a), .val vr]) hvr (by rcases ref_cases hvr with q0 | ⟨_, q0⟩ <;> subst q0 <;> rfl) ?_
        refine o_goto hst X_24.here hx (hb hby dfd_53) (by decide) (pc' := 9) (by decide) ?_
        exact K2 _ _ _ _ T_24 _ X_24 e_24 Nj_22 (Or.inr ⟨a, pa, la, ga, rfl, rfl, N_a⟩) C_r SL2 ((own_best_yes (own_leB_of (x := (a, pa, la, ga)) (Or.inl h1))).symm.trans he)
      ·
        refine hst (fun _ kt => XS.icmpNo X_23.here hx rfl (hb hby dfd_20) rfl (flt h1).1 kt) ?_
        show G (T_23.setTop (mkF mI 23 #[.val (.ref reg), .val (.int q), .val (.long r), .second, .val bv, .val (.ref a)] []))
        refine o_aload hst X_23.here hx (hb hby dfd_23) (pc' := 25) rfl rfl rfl ?_
        obtain ⟨T_25, X_25, e_25, st_25⟩ := getF X_23 hx hZ hown (host := "") (Or.inl (own_w185 hw)) Via.refl e_23 F_places_a (g := (mkF mI 25 #[.val (.ref reg), .val (.int q), .val (.long r), .second, .val bv, .val (.ref a)] [(.ref a)])) rfl rfl (hb hby dfd_25)
        refine hst st_25 ?_
        show G (T_25.setTop (mkF mI 28 #[.val (.ref reg), .val (.int q), .val (.long r), .second, .val bv, .val (.ref a)] [(.int pa)]))
        refine o_iloadN hst X_25.here hx (hb hby dfd_28) (pc' := 29) rfl rfl ?_
        by_cases h2 : pa = q
        ·
          refine hst (fun _ kt => XS.icmpNo X_25.here hx rfl (hb hby dfd_29) rfl (teq h2).2 kt) ?_
          show G (T_25.setTop (mkF mI 32 #[.val (.ref reg), .val (.int q), .val (.long r), .second, .val bv, .val (.ref a)] []))
          refine o_aload hst X_25.here hx (hb hby dfd_32) (pc' := 34) rfl rfl rfl ?_
          obtain ⟨T_26, X_26, e_26, st_26⟩ := getF X_25 hx hZ hown (host := "") (Or.inl (own_w193 hw)) Via.refl e_25 F_low_a (g := (mkF mI 34 #[.val (.ref reg), .val (.int q), .val (.long r), .second, .val bv, .val (.ref a)] [(.ref a)])) rfl rfl (hb hby dfd_34)
          refine hst st_26 ?_
          show G (T_26.setTop (mkF mI 37 #[.val (.ref reg), .val (.int q), .val (.long r), .second, .val bv, .val (.ref a)] [(.long la)]))
          refine o_lloadN hst X_26.here hx (hb hby dfd_37) (pc' := 38) rfl rfl ?_
          refine o_lcmp hst X_26.here hx (hb hby dfd_38) (pc' := 39) rfl ?_
          by_cases h3 : r < la
          ·
            refine hst (fun _ kt => XS.ifYes X_26.here hx rfl (pc0 := 39) (pc' := 56) rfl (hb hby dfd_39) rfl ((if0 _ _).trans (tlt ((lw_gt _ _).mpr h3)).2.2.1) (by decide) (by decide) kt) ?_
            show G (T_26.setTop (mkF mI 56 #[.val (.ref reg), .val (.int q), .val (.long r), .second, .val bv, .val (.ref a)] []))
            refine o_aload hst X_26.here hx (hb hby dfd_56) (pc' := 58) rfl rfl rfl ?_
            obtain ⟨T_27, X_27, e_27, st_27⟩ := getF X_26 hx hZ hown (host := "") (Or.inl (own_w192 hw)) Via.refl e_26 F_keptLeft_a (g := (mkF mI 58 #[.val (.ref reg), .val (.int q), .val (.long r), .second, .val bv, .val (.ref a)] [(.ref a)])) rfl rfl (hb hby dfd_58)
            refine hst st_27 ?_
            show G (T_27.setTop (mkF mI 61 #[.val (.ref reg), .val (.int q), .val (.long r), .second, .val bv, .val (.ref a)] [vl]))
            refine o_astore hst X_27.here hx (hb hby dfd_61) (pc' := 63) rfl (Lt := #[.val (.ref reg), .val (.int q), .val (.long r), .second, .val bv, .val vl]) hvl (by rcases ref_cases hvl with q0 | ⟨_, q0⟩ <;> subst q0 <;> rfl) ?_
            refine o_goto hst X_27.here hx (hb hby dfd_63) (by decide) (pc' := 9) (by decide) ?_
            exact K2 _ _ _ _ T_27 _ X_27 e_27 Nj_22 hbo C_l SL1 ((own_best_no (own_leB_f (x := (a, pa, la, ga)) (fun z => z.elim h1 fun y => y.2 h3)) sA2).symm.trans he)
          ·
            refine hst (fun _ kt => XS.ifNo X_26.here hx rfl (hb hby dfd_39) rfl ((if0 _ _).trans (flt (mt (lw_gt _ _).mp h3)).2.2.1) kt) ?_
            show G (T_26.setTop (mkF mI 42 #[.val (.ref reg), .val (.int q), .val (.long r), .second, .val bv, .val (.ref a)] []))
            refine o_aload hst X_26.here hx (hb hby dfd_42) (pc' := 44) rfl rfl rfl ?_
            refine o_astore hst X_26.here hx (hb hby dfd_44) (pc' := 46) rfl (Lt := #[.val (.ref reg), .val (.int q), .val (.long r), .second, .val (.ref a), .val (.ref a)]) rfl (by rcases ref_cases hbv with q0 | ⟨_, q0⟩ <;> subst q0 <;> rfl) ?_
            refine o_aload hst X_26.here hx (hb hby dfd_46) (pc' := 48) rfl rfl rfl ?_
            obtain ⟨T_28, X_28, e_28, st_28⟩ := getF X_26 hx hZ hown (host := "") (Or.inl (own_w186 hw)) Via.refl e_26 F_keptRight_a (g := (mkF mI 48 #[.val (.ref reg), .val (.int q), .val (.long r), .second, .val (.ref a), .val (.ref a)] [(.ref a)])) rfl rfl (hb hby dfd_48)
            refine hst st_28 ?_
            show G (T_28.setTop (mkF mI 51 #[.val (.ref reg), .val (.int q), .val (.long r), .second, .val (.ref a), .val (.ref a)] [vr]))
            refine o_astore hst X_28.here hx (hb hby dfd_51) (pc' := 53) rfl (Lt := #[.val (.ref reg), .val (.int q), .val (.long r), .second, .val (.ref a), .val vr]) hvr (by rcases ref_cases hvr with q0 | ⟨_, q0⟩ <;> subst q0 <;> rfl) ?_
            refine o_goto hst X_28.here hx (hb hby dfd_53) (by decide) (pc' := 9) (by decide) ?_
            exact K2 _ _ _ _ T_28 _ X_28 e_28 Nj_22 (Or.inr ⟨a, pa, la, ga, rfl, rfl, N_a⟩) C_r SL2 ((own_best_yes (own_leB_of (x := (a, pa, la, ga)) (Or.inr ⟨h2, h3⟩))).symm.trans he)
        ·
          refine hst (fun _ kt => XS.icmpYes X_25.here hx rfl (pc0 := 29) (pc' := 56) rfl (hb hby dfd_29) rfl (feq h2).2 (by decide) (by decide) kt) ?_
          show G (T_25.setTop (mkF mI 56 #[.val (.ref reg), .val (.int q), .val (.long r), .second, .val bv, .val (.ref a)] []))
          refine o_aload hst X_25.here hx (hb hby dfd_56) (pc' := 58) rfl rfl rfl ?_
          obtain ⟨T_29, X_29, e_29, st_29⟩ := getF X_25 hx hZ hown (host := "") (Or.inl (own_w192 hw)) Via.refl e_25 F_keptLeft_a (g := (mkF mI 58 #[.val (.ref reg), .val (.int q), .val (.long r), .second, .val bv, .val (.ref a)] [(.ref a)])) rfl rfl (hb hby dfd_58)
          refine hst st_29 ?_
          show G (T_29.setTop (mkF mI 61 #[.val (.ref reg), .val (.int q), .val (.long r), .second, .val bv, .val (.ref a)] [vl]))
          refine o_astore hst X_29.here hx (hb hby dfd_61) (pc' := 63) rfl (Lt := #[.val (.ref reg), .val (.int q), .val (.long r), .second, .val bv, .val vl]) hvl (by rcases ref_cases hvl with q0 | ⟨_, q0⟩ <;> subst q0 <;> rfl) ?_
          refine o_goto hst X_29.here hx (hb hby dfd_63) (by decide) (pc' := 9) (by decide) ?_
          exact K2 _ _ _ _ T_29 _ X_29 e_29 Nj_22 hbo C_l SL1 ((own_best_no (own_leB_f (x := (a, pa, la, ga)) (fun z => z.elim h1 fun y => h2 y.1)) sA2).symm.trans he)
  exact K3 _ _ _ _ T_1 _ X_1 e_1 N0 (Or.inl ⟨rfl, rfl⟩) C_t S_L rfl
theorem ef_0 (mI : MethodId) (sh : Int32) (xa : Int64) (xb : Int64) (xc : Int64) (xq : Int32) (xr : Int64) : entryFrame mI #[(.int sh), (.long xa), (.long xb), (.long xc), (.int xq), (.long xr)] maxLocals = mkF mI 0 #[.val (.int sh), .val (.long xa), .second, .val (.long xb), .second, .val (.long xc), .second, .val (.int xq), .val (.long xr), .second, .unset, .unset, .unset, .unset, .unset, .unset, .unset, .unset, .unset, .unset, .unset, .unset, .unset, .unset, .unset, .unset, .unset, .unset, .unset, .unset, .unset, .unset, .unset, .unset, .unset, .unset, .unset, .unset] [] := by first | (simp [entryFrame, mkF, argsToLocals, Value.category, maxLocals]; done) | rfl
theorem pn_0 : plainName x.cls = true := by first | decide +kernel | (simp [plainName, overriddenIn]; done)
set_option maxRecDepth 65536 in
set_option maxHeartbeats 40000000 in
theorem rm0 (lL : Launch) (Z : State) (a0 : Array Value) (hw : ∀ d ∈ tables_1, d.before a0 Z = true) (ws : List Jvm.Cond) (sh : Int32) (xa : Int64) (xb : Int64) (xc : Int64) (xq : Int32) (xr : Int64) (ns : Addr) (nc : Addr) (tk : Addr) (h0 : Heap) (n0 : Nat) (Z0 : n0 ≤ h0.size) (S_n1 : Sta Z h0 own_SS "NO_SIZES" "[J" (.ref ns)) (S_n2 : Sta Z h0 own_SS "NO_COUNTS" "[I" (.ref nc)) (S_k : Sta Z h0 own_SS "KEPT" own_dTP (.ref tk)) (E_tk : Exa Z h0 tk own_S1) :
    MetFree lL x (head1 (Jvm.Cond.code x code maxLocals ret :: ws) room_1) (fun a_ U_ => a_ = #[(.int sh), (.long xa), (.long xb), (.long xc), (.int xq), (.long xr)] ∧ Z.Warmed39 U_.vm ∧ U_.heap = h0) (fun _ _ _ _ _ => True) (fun _ U_ o_ W_ => ∃ v_ L_, o_ = .returned v_ ∧ own_Q0 n0 v_ W_.heap L_ ∧ FrameEnd U_ o_ W_ L_ room_1.cells room_1.slots) := by
  refine MetFree.of_bodySF (plainFor_of_name pn_0) hisR ?_
  intro pP eE sS mI args below meth cC s₁ Bd hml0 hP hK
  obtain ⟨rfl, hZ, hh⟩ := hP
  have hx := Bd.exec
  have hby := Bd.bytes
  have hml : cC.maxLocals = 38 := hml0
  have hown : sS.vm.findClass x.cls = some mI.cls := by have z := findClass_of_methodNamed Bd.named; exact z
  have hnm := (name_of_methodNamed Bd.named Bd.method).1
  have X0 : Stand pP lL eE room_1 sS mI #[(.int sh), (.long xa), (.long xb), (.long xc), (.int xq), (.long xr)] below meth cC s₁ [] 0 0 := Stand.of_body Bd
  have e0 : s₁.heap = h0 := by rw [← hh, Bd.state]; rfl
  have N0 := Fr.nil n0
  obtain ⟨G, hG, hst, hend⟩ := own_abs pP eE below sS (own_Q0 n0) room_1.cells room_1.slots
  refine hG (S := s₁.setTop (entryFrame mI #[(.int sh), (.long xa), (.long xb), (.long xc), (.int xq), (.long xr)] maxLocals)) (hst (fun t_ kt_ => castTop (ef_0 mI sh xa xb xc xq xr) kt_) ?_)
  show G (s₁.setTop (mkF mI 0 #[.val (.int sh), .val (.long xa), .second, .val (.long xb), .second, .val (.long xc), .second, .val (.int xq), .val (.long xr), .second, .unset, .unset, .unset, .unset, .unset, .unset, .unset, .unset, .unset, .unset, .unset, .unset, .unset, .unset, .unset, .unset, .unset, .unset, .unset, .unset, .unset, .unset, .unset, .unset, .unset, .unset, .unset, .unset] []))
  refine o_iconst hst X0.here hx (hb hby at_0) (pc' := 1) rfl (z := (1 : Int32)) rfl ?_
  refine o_iloadN hst X0.here hx (hb hby at_1) (pc' := 2) rfl rfl ?_
  refine o_iconst hst X0.here hx (hb hby at_2) (pc' := 3) rfl (z := (3 : Int32)) rfl ?_
  refine o_iand hst X0.here hx (hb hby at_3) (pc' := 4) rfl ?_
  refine o_iadd hst X0.here hx (hb hby at_4) (pc' := 5) rfl ?_
  generalize ((1 : Int32) + (sh &&& (3 : Int32))) = pA
  show G (s₁.setTop (mkF mI 5 #[.val (.int sh), .val (.long xa), .second, .val (.long xb), .second, .val (.long xc), .second, .val (.int xq), .val (.long xr), .second, .unset, .unset, .unset, .unset, .unset, .unset, .unset, .unset, .unset, .unset, .unset, .unset, .unset, .unset, .unset, .unset, .unset, .unset, .unset, .unset, .unset, .unset, .unset, .unset, .unset, .unset, .unset, .unset] [(.int pA)]))
  refine o_istore hst X0.here hx (hb hby at_5) (pc' := 7) rfl (Lt := #[.val (.int sh), .val (.long xa), .second, .val (.long xb), .second, .val (.long xc), .second, .val (.int xq), .val (.long xr), .second, .val (.int pA), .unset, .unset, .unset, .unset, .unset, .unset, .unset, .unset, .unset, .unset, .unset, .unset, .unset, .unset, .unset, .unset, .unset, .unset, .unset, .unset, .unset, .unset, .unset, .unset, .unset, .unset, .unset]) rfl ?_
  refine o_iconst hst X0.here hx (hb hby at_7) (pc' := 8) rfl (z := (1 : Int32)) rfl ?_
  refine o_iloadN hst X0.here hx (hb hby at_8) (pc' := 9) rfl rfl ?_
  refine o_iconst hst X0.here hx (hb hby at_9) (pc' := 10) rfl (z := (2 : Int32)) rfl ?_
  refine o_iushr hst X0.here hx (hb hby at_10) (pc' := 11) rfl ?_
  refine o_iconst hst X0.here hx (hb hby at_11) (pc' := 12) rfl (z := (3 : Int32)) rfl ?_
  refine o_iand hst X0.here hx (hb hby at_12) (pc' := 13) rfl ?_
  refine o_iadd hst X0.here hx (hb hby at_13) (pc' := 14) rfl ?_
  generalize ((1 : Int32) + (((sh.toUInt32 >>> ((2 : Int32) &&& 31).toUInt32).toInt32) &&& (3 : Int32))) = pB
  show G (s₁.setTop (mkF mI 14 #[.val (.int sh), .val (.long xa), .second, .val (.long xb), .second, .val (.long xc), .second, .val (.int xq), .val (.long xr), .second, .val (.int pA), .unset, .unset, .unset, .unset, .unset, .unset, .unset, .unset, .unset, .unset, .unset, .unset, .unset, .unset, .unset, .unset, .unset, .unset, .unset, .unset, .unset, .unset, .unset, .unset, .unset, .unset, .unset] [(.int pB)]))
  refine o_istore hst X0.here hx (hb hby at_14) (pc' := 16) rfl (Lt := #[.val (.int sh), .val (.long xa), .second, .val (.long xb), .second, .val (.long xc), .second, .val (.int xq), .val (.long xr), .second, .val (.int pA), .val (.int pB), .unset, .unset, .unset, .unset, .unset, .unset, .unset, .unset, .unset, .unset, .unset, .unset, .unset, .unset, .unset, .unset, .unset, .unset, .unset, .unset, .unset, .unset, .unset, .unset, .unset, .unset]) rfl ?_
  refine o_iconst hst X0.here hx (hb hby at_16) (pc' := 17) rfl (z := (1 : Int32)) rfl ?_
  refine o_iloadN hst X0.here hx (hb hby at_17) (pc' := 18) rfl rfl ?_
  refine o_iconst hst X0.here hx (hb hby at_18) (pc' := 19) rfl (z := (4 : Int32)) rfl ?_
  refine o_iushr hst X0.here hx (hb hby at_19) (pc' := 20) rfl ?_
  refine o_iconst hst X0.here hx (hb hby at_20) (pc' := 21) rfl (z := (3 : Int32)) rfl ?_
  refine o_iand hst X0.here hx (hb hby at_21) (pc' := 22) rfl ?_
  refine o_iadd hst X0.here hx (hb hby at_22) (pc' := 23) rfl ?_
  generalize ((1 : Int32) + (((sh.toUInt32 >>> ((4 : Int32) &&& 31).toUInt32).toInt32) &&& (3 : Int32))) = pC
  show G (s₁.setTop (mkF mI 23 #[.val (.int sh), .val (.long xa), .second, .val (.long xb), .second, .val (.long xc), .second, .val (.int xq), .val (.long xr), .second, .val (.int pA), .val (.int pB), .unset, .unset, .unset, .unset, .unset, .unset, .unset, .unset, .unset, .unset, .unset, .unset, .unset, .unset, .unset, .unset, .unset, .unset, .unset, .unset, .unset, .unset, .unset, .unset, .unset, .unset] [(.int pC)]))
  refine o_istore hst X0.here hx (hb hby at_23) (pc' := 25) rfl (Lt := #[.val (.int sh), .val (.long xa), .second, .val (.long xb), .second, .val (.long xc), .second, .val (.int xq), .val (.long xr), .second, .val (.int pA), .val (.int pB), .val (.int pC), .unset, .unset, .unset, .unset, .unset, .unset, .unset, .unset, .unset, .unset, .unset, .unset, .unset, .unset, .unset, .unset, .unset, .unset, .unset, .unset, .unset, .unset, .unset, .unset, .unset]) rfl ?_
  refine o_lloadN hst X0.here hx (hb hby at_25) (pc' := 26) rfl rfl ?_
  refine o_lstore hst X0.here hx (hb hby at_26) (pc' := 28) rfl (Lt := #[.val (.int sh), .val (.long xa), .second, .val (.long xb), .second, .val (.long xc), .second, .val (.int xq), .val (.long xr), .second, .val (.int pA), .val (.int pB), .val (.int pC), .val (.long xa), .second, .unset, .unset, .unset, .unset, .unset, .unset, .unset, .unset, .unset, .unset, .unset, .unset, .unset, .unset, .unset, .unset, .unset, .unset, .unset, .unset, .unset, .unset, .unset]) rfl ?_
  refine o_lload hst X0.here hx (hb hby at_28) (pc' := 30) rfl rfl ?_
  refine o_iconst hst X0.here hx (hb hby at_30) (pc' := 31) rfl (z := (1 : Int32)) rfl ?_
  refine o_iloadN hst X0.here hx (hb hby at_31) (pc' := 32) rfl rfl ?_
  refine o_bipush hst X0.here hx (hb hby at_32) (pc' := 34) rfl (z := (6 : Int32)) rfl ?_
  refine o_iushr hst X0.here hx (hb hby at_34) (pc' := 35) rfl ?_
  refine o_bipush hst X0.here hx (hb hby at_35) (pc' := 37) rfl (z := (7 : Int32)) rfl ?_
  refine o_iand hst X0.here hx (hb hby at_37) (pc' := 38) rfl ?_
  refine o_iadd hst X0.here hx (hb hby at_38) (pc' := 39) rfl ?_
  refine o_i2l hst X0.here hx (hb hby at_39) (pc' := 40) rfl ?_
  have hgA := own_sh_ge xa ((sh.toUInt32 >>> ((6 : Int32) &&& 31).toUInt32).toInt32)
  obtain ⟨_, _, ⟨T_1, L_1, k_1, n_1⟩, -, X_1, ⟨Lc_1, hQ_1, l_1, y_1, z_1⟩, st_1⟩ := Jvm.LawKit.callS X0 hx (y := (⟨x.cls, "shift", "(JJ)J"⟩ : MethodName)) hown (mvT hZ (own_w0 hw)) (mvT hZ (own_w1 hw)) (mvT hZ (own_w2 hw)) (mvT hZ (own_w3 hw)) (by decide) (backOf (W := 0) (rmsh lL Z a0 hw [] xa (((1 : Int32) + (((sh.toUInt32 >>> ((6 : Int32) &&& 31).toUInt32).toInt32) &&& (7 : Int32))).toInt64)  h0 n0 Z0) hZ (own_w3 hw) (own_w2 hw) (by decide) (by decide)) (g := (mkF mI 40 #[.val (.int sh), .val (.long xa), .second, .val (.long xb), .second, .val (.long xc), .second, .val (.int xq), .val (.long xr), .second, .val (.int pA), .val (.int pB), .val (.int pC), .val (.long xa), .second, .unset, .unset, .unset, .unset, .unset, .unset, .unset, .unset, .unset, .unset, .unset, .unset, .unset, .unset, .unset, .unset, .unset, .unset, .unset, .unset, .unset, .unset, .unset] [(.long (((1 : Int32) + (((sh.toUInt32 >>> ((6 : Int32) &&& 31).toUInt32).toInt32) &&& (7 : Int32))).toInt64)), (.long xa)])) rfl (by rw [hml]; rfl) (argsL := [(.long xa), (.long (((1 : Int32) + (((sh.toUInt32 >>> ((6 : Int32) &&& 31).toUInt32).toInt32) &&& (7 : Int32))).toInt64))]) (rest := []) (lenOf pd_12 rfl) rfl (by show 2 * 0 + _ ≤ _; exact Nat.le_of_eq rfl) (hb hby at_40) (fun _ _ => ⟨rfl, e0, (by decide : 0 + 0 ≤ _), (by decide : 0 + 0 ≤ _)⟩)
  dsimp only [Pt.U, Pt.locs, Pt.cells, Pt.slots] at X_1 l_1 y_1 z_1 st_1 hQ_1
  subst l_1 y_1 z_1
  obtain ⟨rfl, N_1q, eh_1⟩ := hQ_1
  have N_1 := Fr.app N0 N_1q
  refine hst (fun _ kt => st_1 _ kt) ?_
  show G (T_1.setTop (mkF mI 43 #[.val (.int sh), .val (.long xa), .second, .val (.long xb), .second, .val (.long xc), .second, .val (.int xq), .val (.long xr), .second, .val (.int pA), .val (.int pB), .val (.int pC), .val (.long xa), .second, .unset, .unset, .unset, .unset, .unset, .unset, .unset, .unset, .unset, .unset, .unset, .unset, .unset, .unset, .unset, .unset, .unset, .unset, .unset, .unset, .unset, .unset, .unset] [(.long (own_sh xa (((1 : Int32) + (((sh.toUInt32 >>> ((6 : Int32) &&& 31).toUInt32).toInt32) &&& (7 : Int32))).toInt64)))]))
  generalize (own_sh xa (((1 : Int32) + (((sh.toUInt32 >>> ((6 : Int32) &&& 31).toUInt32).toInt32) &&& (7 : Int32))).toInt64)) = gA at hgA ⊢
  show G (T_1.setTop (mkF mI 43 #[.val (.int sh), .val (.long xa), .second, .val (.long xb), .second, .val (.long xc), .second, .val (.int xq), .val (.long xr), .second, .val (.int pA), .val (.int pB), .val (.int pC), .val (.long xa), .second, .unset, .unset, .unset, .unset, .unset, .unset, .unset, .unset, .unset, .unset, .unset, .unset, .unset, .unset, .unset, .unset, .unset, .unset, .unset, .unset, .unset, .unset, .unset] [(.long gA)]))
  refine o_lstore hst X_1.here hx (hb hby at_43) (pc' := 45) rfl (Lt := #[.val (.int sh), .val (.long xa), .second, .val (.long xb), .second, .val (.long xc), .second, .val (.int xq), .val (.long xr), .second, .val (.int pA), .val (.int pB), .val (.int pC), .val (.long xa), .second, .val (.long gA), .second, .unset, .unset, .unset, .unset, .unset, .unset, .unset, .unset, .unset, .unset, .unset, .unset, .unset, .unset, .unset, .unset, .unset, .unset, .unset, .unset, .unset]) rfl ?_
  refine o_iloadN hst X_1.here hx (hb hby at_45) (pc' := 46) rfl rfl ?_
  refine hst (X_1.ldcInt hx hown (mvT hZ (own_w5 hw)) (g := (mkF mI 46 #[.val (.int sh), .val (.long xa), .second, .val (.long xb), .second, .val (.long xc), .second, .val (.int xq), .val (.long xr), .second, .val (.int pA), .val (.int pB), .val (.int pC), .val (.long xa), .second, .val (.long gA), .second, .unset, .unset, .unset, .unset, .unset, .unset, .unset, .unset, .unset, .unset, .unset, .unset, .unset, .unset, .unset, .unset, .unset, .unset, .unset, .unset, .unset] [(.int sh)])) rfl (hb hby at_46)) ?_
  show G (T_1.setTop (mkF mI 48 #[.val (.int sh), .val (.long xa), .second, .val (.long xb), .second, .val (.long xc), .second, .val (.int xq), .val (.long xr), .second, .val (.int pA), .val (.int pB), .val (.int pC), .val (.long xa), .second, .val (.long gA), .second, .unset, .unset, .unset, .unset, .unset, .unset, .unset, .unset, .unset, .unset, .unset, .unset, .unset, .unset, .unset, .unset, .unset, .unset, .unset, .unset, .unset] [(.int (32768 : Int32)), (.int sh)]))
  refine o_iand hst X_1.here hx (hb hby at_48) (pc' := 49) rfl ?_
  have J66 : ∀ (lB : Int64) (Tj_2 : State) (lj_2 : List Loc) (Xj_2 : Stand pP lL eE room_1 sS mI #[(.int sh), (.long xa), (.long xb), (.long xc), (.int xq), (.long xr)] below meth cC Tj_2 lj_2 0 0) (ej_2 : Tj_2.heap = h0) (Nj_2 : Fr n0 lj_2), G (Tj_2.setTop (mkF mI 66 #[.val (.int sh), .val (.long xa), .second, .val (.long xb), .second, .val (.long xc), .second, .val (.int xq), .val (.long xr), .second, .val (.int pA), .val (.int pB), .val (.int pC), .val (.long xa), .second, .val (.long gA), .second, .unset, .unset, .unset, .unset, .unset, .unset, .unset, .unset, .unset, .unset, .unset, .unset, .unset, .unset, .unset, .unset, .unset, .unset, .unset, .unset, .unset] [(.long lB)])) := by
    intro lB Tj_2 lj_2 Xj_2 ej_2 Nj_2
    show G (Tj_2.setTop (mkF mI 66 #[.val (.int sh), .val (.long xa), .second, .val (.long xb), .second, .val (.long xc), .second, .val (.int xq), .val (.long xr), .second, .val (.int pA), .val (.int pB), .val (.int pC), .val (.long xa), .second, .val (.long gA), .second, .unset, .unset, .unset, .unset, .unset, .unset, .unset, .unset, .unset, .unset, .unset, .unset, .unset, .unset, .unset, .unset, .unset, .unset, .unset, .unset, .unset] [(.long lB)]))
    refine o_lstore hst Xj_2.here hx (hb hby at_66) (pc' := 68) rfl (Lt := #[.val (.int sh), .val (.long xa), .second, .val (.long xb), .second, .val (.long xc), .second, .val (.int xq), .val (.long xr), .second, .val (.int pA), .val (.int pB), .val (.int pC), .val (.long xa), .second, .val (.long gA), .second, .val (.long lB), .second, .unset, .unset, .unset, .unset, .unset, .unset, .unset, .unset, .unset, .unset, .unset, .unset, .unset, .unset, .unset, .unset, .unset, .unset, .unset]) rfl ?_
    refine o_lload hst Xj_2.here hx (hb hby at_68) (pc' := 70) rfl rfl ?_
    refine o_iconst hst Xj_2.here hx (hb hby at_70) (pc' := 71) rfl (z := (1 : Int32)) rfl ?_
    refine o_iloadN hst Xj_2.here hx (hb hby at_71) (pc' := 72) rfl rfl ?_
    refine o_bipush hst Xj_2.here hx (hb hby at_72) (pc' := 74) rfl (z := (9 : Int32)) rfl ?_
    refine o_iushr hst Xj_2.here hx (hb hby at_74) (pc' := 75) rfl ?_
    refine o_bipush hst Xj_2.here hx (hb hby at_75) (pc' := 77) rfl (z := (7 : Int32)) rfl ?_
    refine o_iand hst Xj_2.here hx (hb hby at_77) (pc' := 78) rfl ?_
    refine o_iadd hst Xj_2.here hx (hb hby at_78) (pc' := 79) rfl ?_
    refine o_i2l hst Xj_2.here hx (hb hby at_79) (pc' := 80) rfl ?_
    have hgB := own_sh_ge lB ((sh.toUInt32 >>> ((9 : Int32) &&& 31).toUInt32).toInt32)
    obtain ⟨_, _, ⟨T_3, L_3, k_3, n_3⟩, -, X_3, ⟨Lc_3, hQ_3, l_3, y_3, z_3⟩, st_3⟩ := Jvm.LawKit.callS Xj_2 hx (y := (⟨x.cls, "shift", "(JJ)J"⟩ : MethodName)) hown (mvT hZ (own_w0 hw)) (mvT hZ (own_w1 hw)) (mvT hZ (own_w2 hw)) (mvT hZ (own_w3 hw)) (by decide) (backOf (W := 0) (rmsh lL Z a0 hw [] lB (((1 : Int32) + (((sh.toUInt32 >>> ((9 : Int32) &&& 31).toUInt32).toInt32) &&& (7 : Int32))).toInt64)  h0 n0 Z0) hZ (own_w3 hw) (own_w2 hw) (by decide) (by decide)) (g := (mkF mI 80 #[.val (.int sh), .val (.long xa), .second, .val (.long xb), .second, .val (.long xc), .second, .val (.int xq), .val (.long xr), .second, .val (.int pA), .val (.int pB), .val (.int pC), .val (.long xa), .second, .val (.long gA), .second, .val (.long lB), .second, .unset, .unset, .unset, .unset, .unset, .unset, .unset, .unset, .unset, .unset, .unset, .unset, .unset, .unset, .unset, .unset, .unset, .unset, .unset] [(.long (((1 : Int32) + (((sh.toUInt32 >>> ((9 : Int32) &&& 31).toUInt32).toInt32) &&& (7 : Int32))).toInt64)), (.long lB)])) rfl (by rw [hml]; rfl) (argsL := [(.long lB), (.long (((1 : Int32) + (((sh.toUInt32 >>> ((9 : Int32) &&& 31).toUInt32).toInt32) &&& (7 : Int32))).toInt64))]) (rest := []) (lenOf pd_12 rfl) rfl (by show 2 * 0 + _ ≤ _; exact Nat.le_of_eq rfl) (hb hby at_80) (fun _ _ => ⟨rfl, ej_2, (by decide : 0 + 0 ≤ _), (by decide : 0 + 0 ≤ _)⟩)
    dsimp only [Pt.U, Pt.locs, Pt.cells, Pt.slots] at X_3 l_3 y_3 z_3 st_3 hQ_3
    subst l_3 y_3 z_3
    obtain ⟨rfl, N_3q, eh_3⟩ := hQ_3
    have N_3 := Fr.app Nj_2 N_3q
    refine hst (fun _ kt => st_3 _ kt) ?_
    show G (T_3.setTop (mkF mI 83 #[.val (.int sh), .val (.long xa), .second, .val (.long xb), .second, .val (.long xc), .second, .val (.int xq), .val (.long xr), .second, .val (.int pA), .val (.int pB), .val (.int pC), .val (.long xa), .second, .val (.long gA), .second, .val (.long lB), .second, .unset, .unset, .unset, .unset, .unset, .unset, .unset, .unset, .unset, .unset, .unset, .unset, .unset, .unset, .unset, .unset, .unset, .unset, .unset] [(.long (own_sh lB (((1 : Int32) + (((sh.toUInt32 >>> ((9 : Int32) &&& 31).toUInt32).toInt32) &&& (7 : Int32))).toInt64)))]))
    generalize (own_sh lB (((1 : Int32) + (((sh.toUInt32 >>> ((9 : Int32) &&& 31).toUInt32).toInt32) &&& (7 : Int32))).toInt64)) = gB at hgB ⊢
    show G (T_3.setTop (mkF mI 83 #[.val (.int sh), .val (.long xa), .second, .val (.long xb), .second, .val (.long xc), .second, .val (.int xq), .val (.long xr), .second, .val (.int pA), .val (.int pB), .val (.int pC), .val (.long xa), .second, .val (.long gA), .second, .val (.long lB), .second, .unset, .unset, .unset, .unset, .unset, .unset, .unset, .unset, .unset, .unset, .unset, .unset, .unset, .unset, .unset, .unset, .unset, .unset, .unset] [(.long gB)]))
    refine o_lstore hst X_3.here hx (hb hby at_83) (pc' := 85) rfl (Lt := #[.val (.int sh), .val (.long xa), .second, .val (.long xb), .second, .val (.long xc), .second, .val (.int xq), .val (.long xr), .second, .val (.int pA), .val (.int pB), .val (.int pC), .val (.long xa), .second, .val (.long gA), .second, .val (.long lB), .second, .val (.long gB), .second, .unset, .unset, .unset, .unset, .unset, .unset, .unset, .unset, .unset, .unset, .unset, .unset, .unset, .unset, .unset, .unset, .unset]) rfl ?_
    refine o_iloadN hst X_3.here hx (hb hby at_85) (pc' := 86) rfl rfl ?_
    refine hst (X_3.ldcInt hx hown (mvT hZ (own_w7 hw)) (g := (mkF mI 86 #[.val (.int sh), .val (.long xa), .second, .val (.long xb), .second, .val (.long xc), .second, .val (.int xq), .val (.long xr), .second, .val (.int pA), .val (.int pB), .val (.int pC), .val (.long xa), .second, .val (.long gA), .second, .val (.long lB), .second, .val (.long gB), .second, .unset, .unset, .unset, .unset, .unset, .unset, .unset, .unset, .unset, .unset, .unset, .unset, .unset, .unset, .unset, .unset, .unset] [(.int sh)])) rfl (hb hby at_86)) ?_
    show G (T_3.setTop (mkF mI 88 #[.val (.int sh), .val (.long xa), .second, .val (.long xb), .second, .val (.long xc), .second, .val (.int xq), .val (.long xr), .second, .val (.int pA), .val (.int pB), .val (.int pC), .val (.long xa), .second, .val (.long gA), .second, .val (.long lB), .second, .val (.long gB), .second, .unset, .unset, .unset, .unset, .unset, .unset, .unset, .unset, .unset, .unset, .unset, .unset, .unset, .unset, .unset, .unset, .unset] [(.int (65536 : Int32)), (.int sh)]))
    refine o_iand hst X_3.here hx (hb hby at_88) (pc' := 89) rfl ?_
    have J108 : ∀ (lC : Int64) (Tj_4 : State) (lj_4 : List Loc) (Xj_4 : Stand pP lL eE room_1 sS mI #[(.int sh), (.long xa), (.long xb), (.long xc), (.int xq), (.long xr)] below meth cC Tj_4 lj_4 0 0) (ej_4 : Tj_4.heap = h0) (Nj_4 : Fr n0 lj_4), G (Tj_4.setTop (mkF mI 108 #[.val (.int sh), .val (.long xa), .second, .val (.long xb), .second, .val (.long xc), .second, .val (.int xq), .val (.long xr), .second, .val (.int pA), .val (.int pB), .val (.int pC), .val (.long xa), .second, .val (.long gA), .second, .val (.long lB), .second, .val (.long gB), .second, .unset, .unset, .unset, .unset, .unset, .unset, .unset, .unset, .unset, .unset, .unset, .unset, .unset, .unset, .unset, .unset, .unset] [(.long lC)])) := by
      intro lC Tj_4 lj_4 Xj_4 ej_4 Nj_4
      show G (Tj_4.setTop (mkF mI 108 #[.val (.int sh), .val (.long xa), .second, .val (.long xb), .second, .val (.long xc), .second, .val (.int xq), .val (.long xr), .second, .val (.int pA), .val (.int pB), .val (.int pC), .val (.long xa), .second, .val (.long gA), .second, .val (.long lB), .second, .val (.long gB), .second, .unset, .unset, .unset, .unset, .unset, .unset, .unset, .unset, .unset, .unset, .unset, .unset, .unset, .unset, .unset, .unset, .unset] [(.long lC)]))
      refine o_lstore hst Xj_4.here hx (hb hby at_108) (pc' := 110) rfl (Lt := #[.val (.int sh), .val (.long xa), .second, .val (.long xb), .second, .val (.long xc), .second, .val (.int xq), .val (.long xr), .second, .val (.int pA), .val (.int pB), .val (.int pC), .val (.long xa), .second, .val (.long gA), .second, .val (.long lB), .second, .val (.long gB), .second, .val (.long lC), .second, .unset, .unset, .unset, .unset, .unset, .unset, .unset, .unset, .unset, .unset, .unset, .unset, .unset, .unset, .unset]) rfl ?_
      refine o_lload hst Xj_4.here hx (hb hby at_110) (pc' := 112) rfl rfl ?_
      refine o_iconst hst Xj_4.here hx (hb hby at_112) (pc' := 113) rfl (z := (1 : Int32)) rfl ?_
      refine o_iloadN hst Xj_4.here hx (hb hby at_113) (pc' := 114) rfl rfl ?_
      refine o_bipush hst Xj_4.here hx (hb hby at_114) (pc' := 116) rfl (z := (12 : Int32)) rfl ?_
      refine o_iushr hst Xj_4.here hx (hb hby at_116) (pc' := 117) rfl ?_
      refine o_bipush hst Xj_4.here hx (hb hby at_117) (pc' := 119) rfl (z := (7 : Int32)) rfl ?_
      refine o_iand hst Xj_4.here hx (hb hby at_119) (pc' := 120) rfl ?_
      refine o_iadd hst Xj_4.here hx (hb hby at_120) (pc' := 121) rfl ?_
      refine o_i2l hst Xj_4.here hx (hb hby at_121) (pc' := 122) rfl ?_
      have hgC := own_sh_ge lC ((sh.toUInt32 >>> ((12 : Int32) &&& 31).toUInt32).toInt32)
      obtain ⟨_, _, ⟨T_5, L_5, k_5, n_5⟩, -, X_5, ⟨Lc_5, hQ_5, l_5, y_5, z_5⟩, st_5⟩ := Jvm.LawKit.callS Xj_4 hx (y := (⟨x.cls, "shift", "(JJ)J"⟩ : MethodName)) hown (mvT hZ (own_w0 hw)) (mvT hZ (own_w1 hw)) (mvT hZ (own_w2 hw)) (mvT hZ (own_w3 hw)) (by decide) (backOf (W := 0) (rmsh lL Z a0 hw [] lC (((1 : Int32) + (((sh.toUInt32 >>> ((12 : Int32) &&& 31).toUInt32).toInt32) &&& (7 : Int32))).toInt64)  h0 n0 Z0) hZ (own_w3 hw) (own_w2 hw) (by decide) (by decide)) (g := (mkF mI 122 #[.val (.int sh), .val (.long xa), .second, .val (.long xb), .second, .val (.long xc), .second, .val (.int xq), .val (.long xr), .second, .val (.int pA), .val (.int pB), .val (.int pC), .val (.long xa), .second, .val (.long gA), .second, .val (.long lB), .second, .val (.long gB), .second, .val (.long lC), .second, .unset, .unset, .unset, .unset, .unset, .unset, .unset, .unset, .unset, .unset, .unset, .unset, .unset, .unset, .unset] [(.long (((1 : Int32) + (((sh.toUInt32 >>> ((12 : Int32) &&& 31).toUInt32).toInt32) &&& (7 : Int32))).toInt64)), (.long lC)])) rfl (by rw [hml]; rfl) (argsL := [(.long lC), (.long (((1 : Int32) + (((sh.toUInt32 >>> ((12 : Int32) &&& 31).toUInt32).toInt32) &&& (7 : Int32))).toInt64))]) (rest := []) (lenOf pd_12 rfl) rfl (by show 2 * 0 + _ ≤ _; exact Nat.le_of_eq rfl) (hb hby at_122) (fun _ _ => ⟨rfl, ej_4, (by decide : 0 + 0 ≤ _), (by decide : 0 + 0 ≤ _)⟩)
      dsimp only [Pt.U, Pt.locs, Pt.cells, Pt.slots] at X_5 l_5 y_5 z_5 st_5 hQ_5
      subst l_5 y_5 z_5
      obtain ⟨rfl, N_5q, eh_5⟩ := hQ_5
      have N_5 := Fr.app Nj_4 N_5q
      refine hst (fun _ kt => st_5 _ kt) ?_
      show G (T_5.setTop (mkF mI 125 #[.val (.int sh), .val (.long xa), .second, .val (.long xb), .second, .val (.long xc), .second, .val (.int xq), .val (.long xr), .second, .val (.int pA), .val (.int pB), .val (.int pC), .val (.long xa), .second, .val (.long gA), .second, .val (.long lB), .second, .val (.long gB), .second, .val (.long lC), .second, .unset, .unset, .unset, .unset, .unset, .unset, .unset, .unset, .unset, .unset, .unset, .unset, .unset, .unset, .unset] [(.long (own_sh lC (((1 : Int32) + (((sh.toUInt32 >>> ((12 : Int32) &&& 31).toUInt32).toInt32) &&& (7 : Int32))).toInt64)))]))
      generalize (own_sh lC (((1 : Int32) + (((sh.toUInt32 >>> ((12 : Int32) &&& 31).toUInt32).toInt32) &&& (7 : Int32))).toInt64)) = gC at hgC ⊢
      show G (T_5.setTop (mkF mI 125 #[.val (.int sh), .val (.long xa), .second, .val (.long xb), .second, .val (.long xc), .second, .val (.int xq), .val (.long xr), .second, .val (.int pA), .val (.int pB), .val (.int pC), .val (.long xa), .second, .val (.long gA), .second, .val (.long lB), .second, .val (.long gB), .second, .val (.long lC), .second, .unset, .unset, .unset, .unset, .unset, .unset, .unset, .unset, .unset, .unset, .unset, .unset, .unset, .unset, .unset] [(.long gC)]))
      refine o_lstore hst X_5.here hx (hb hby at_125) (pc' := 127) rfl (Lt := #[.val (.int sh), .val (.long xa), .second, .val (.long xb), .second, .val (.long xc), .second, .val (.int xq), .val (.long xr), .second, .val (.int pA), .val (.int pB), .val (.int pC), .val (.long xa), .second, .val (.long gA), .second, .val (.long lB), .second, .val (.long gB), .second, .val (.long lC), .second, .val (.long gC), .second, .unset, .unset, .unset, .unset, .unset, .unset, .unset, .unset, .unset, .unset, .unset, .unset, .unset]) rfl ?_
      refine o_iload hst X_5.here hx (hb hby at_127) (pc' := 129) rfl rfl ?_
      refine o_lload hst X_5.here hx (hb hby at_129) (pc' := 131) rfl rfl ?_
      refine o_lload hst X_5.here hx (hb hby at_131) (pc' := 133) rfl rfl ?_
      refine o_iload hst X_5.here hx (hb hby at_133) (pc' := 135) rfl rfl ?_
      refine o_lload hst X_5.here hx (hb hby at_135) (pc' := 137) rfl rfl ?_
      refine o_lload hst X_5.here hx (hb hby at_137) (pc' := 139) rfl rfl ?_
      obtain ⟨_, _, ⟨T_6, L_6, k_6, n_6⟩, -, X_6, ⟨Lc_6, hQ_6, l_6, y_6, z_6⟩, st_6⟩ := Jvm.LawKit.callS X_5 hx (y := (⟨x.cls, "clash", "(IJJIJJ)Z"⟩ : MethodName)) hown (mvT hZ (own_w8 hw)) (mvT hZ (own_w9 hw)) (mvT hZ (own_w2 hw)) (mvT hZ (own_w10 hw)) (by decide) (backOf (W := 0) (rmcl lL Z a0 hw [] pA xa gA pB lB gB  h0 n0 Z0) hZ (own_w10 hw) (own_w2 hw) (by decide) (by decide)) (g := (mkF mI 139 #[.val (.int sh), .val (.long xa), .second, .val (.long xb), .second, .val (.long xc), .second, .val (.int xq), .val (.long xr), .second, .val (.int pA), .val (.int pB), .val (.int pC), .val (.long xa), .second, .val (.long gA), .second, .val (.long lB), .second, .val (.long gB), .second, .val (.long lC), .second, .val (.long gC), .second, .unset, .unset, .unset, .unset, .unset, .unset, .unset, .unset, .unset, .unset, .unset, .unset, .unset] [(.long gB), (.long lB), (.int pB), (.long gA), (.long xa), (.int pA)])) rfl (by rw [hml]; rfl) (argsL := [(.int pA), (.long xa), (.long gA), (.int pB), (.long lB), (.long gB)]) (rest := []) (lenOf pd_13 rfl) rfl (by show 2 * 0 + _ ≤ _; exact Nat.le_of_eq rfl) (hb hby at_139) (fun _ _ => ⟨rfl, eh_5, (by decide : 0 + 0 ≤ _), (by decide : 0 + 0 ≤ _)⟩)
      dsimp only [Pt.U, Pt.locs, Pt.cells, Pt.slots] at X_6 l_6 y_6 z_6 st_6 hQ_6
      subst l_6 y_6 z_6
      obtain ⟨rfl, N_6q, eh_6⟩ := hQ_6
      have N_6 := Fr.app N_5 N_6q
      refine hst (fun _ kt => st_6 _ kt) ?_
      show G (T_6.setTop (mkF mI 142 #[.val (.int sh), .val (.long xa), .second, .val (.long xb), .second, .val (.long xc), .second, .val (.int xq), .val (.long xr), .second, .val (.int pA), .val (.int pB), .val (.int pC), .val (.long xa), .second, .val (.long gA), .second, .val (.long lB), .second, .val (.long gB), .second, .val (.long lC), .second, .val (.long gC), .second, .unset, .unset, .unset, .unset, .unset, .unset, .unset, .unset, .unset, .unset, .unset, .unset, .unset] [(.int (own_cl pA xa gA pB lB gB))]))
      by_cases hAB : (own_cl pA xa gA pB lB gB) = (0 : Int32)
      ·
        refine hst (fun _ kt => XS.ifNo X_6.here hx rfl (hb hby at_142) rfl ((if0 _ _).trans (teq hAB).2) kt) ?_
        show G (T_6.setTop (mkF mI 145 #[.val (.int sh), .val (.long xa), .second, .val (.long xb), .second, .val (.long xc), .second, .val (.int xq), .val (.long xr), .second, .val (.int pA), .val (.int pB), .val (.int pC), .val (.long xa), .second, .val (.long gA), .second, .val (.long lB), .second, .val (.long gB), .second, .val (.long lC), .second, .val (.long gC), .second, .unset, .unset, .unset, .unset, .unset, .unset, .unset, .unset, .unset, .unset, .unset, .unset, .unset] []))
        refine o_iload hst X_6.here hx (hb hby at_145) (pc' := 147) rfl rfl ?_
        refine o_lload hst X_6.here hx (hb hby at_147) (pc' := 149) rfl rfl ?_
        refine o_lload hst X_6.here hx (hb hby at_149) (pc' := 151) rfl rfl ?_
        refine o_iload hst X_6.here hx (hb hby at_151) (pc' := 153) rfl rfl ?_
        refine o_lload hst X_6.here hx (hb hby at_153) (pc' := 155) rfl rfl ?_
        refine o_lload hst X_6.here hx (hb hby at_155) (pc' := 157) rfl rfl ?_
        obtain ⟨_, _, ⟨T_7, L_7, k_7, n_7⟩, -, X_7, ⟨Lc_7, hQ_7, l_7, y_7, z_7⟩, st_7⟩ := Jvm.LawKit.callS X_6 hx (y := (⟨x.cls, "clash", "(IJJIJJ)Z"⟩ : MethodName)) hown (mvT hZ (own_w8 hw)) (mvT hZ (own_w9 hw)) (mvT hZ (own_w2 hw)) (mvT hZ (own_w10 hw)) (by decide) (backOf (W := 0) (rmcl lL Z a0 hw [] pA xa gA pC lC gC  h0 n0 Z0) hZ (own_w10 hw) (own_w2 hw) (by decide) (by decide)) (g := (mkF mI 157 #[.val (.int sh), .val (.long xa), .second, .val (.long xb), .second, .val (.long xc), .second, .val (.int xq), .val (.long xr), .second, .val (.int pA), .val (.int pB), .val (.int pC), .val (.long xa), .second, .val (.long gA), .second, .val (.long lB), .second, .val (.long gB), .second, .val (.long lC), .second, .val (.long gC), .second, .unset, .unset, .unset, .unset, .unset, .unset, .unset, .unset, .unset, .unset, .unset, .unset, .unset] [(.long gC), (.long lC), (.int pC), (.long gA), (.long xa), (.int pA)])) rfl (by rw [hml]; rfl) (argsL := [(.int pA), (.long xa), (.long gA), (.int pC), (.long lC), (.long gC)]) (rest := []) (lenOf pd_13 rfl) rfl (by show 2 * 0 + _ ≤ _; exact Nat.le_of_eq rfl) (hb hby at_157) (fun _ _ => ⟨rfl, eh_6, (by decide : 0 + 0 ≤ _), (by decide : 0 + 0 ≤ _)⟩)
        dsimp only [Pt.U, Pt.locs, Pt.cells, Pt.slots] at X_7 l_7 y_7 z_7 st_7 hQ_7
        subst l_7 y_7 z_7
        obtain ⟨rfl, N_7q, eh_7⟩ := hQ_7
        have N_7 := Fr.app N_6 N_7q
        refine hst (fun _ kt => st_7 _ kt) ?_
        show G (T_7.setTop (mkF mI 160 #[.val (.int sh), .val (.long xa), .second, .val (.long xb), .second, .val (.long xc), .second, .val (.int xq), .val (.long xr), .second, .val (.int pA), .val (.int pB), .val (.int pC), .val (.long xa), .second, .val (.long gA), .second, .val (.long lB), .second, .val (.long gB), .second, .val (.long lC), .second, .val (.long gC), .second, .unset, .unset, .unset, .unset, .unset, .unset, .unset, .unset, .unset, .unset, .unset, .unset, .unset] [(.int (own_cl pA xa gA pC lC gC))]))
        by_cases hAC : (own_cl pA xa gA pC lC gC) = (0 : Int32)
        ·
          refine hst (fun _ kt => XS.ifNo X_7.here hx rfl (hb hby at_160) rfl ((if0 _ _).trans (teq hAC).2) kt) ?_
          show G (T_7.setTop (mkF mI 163 #[.val (.int sh), .val (.long xa), .second, .val (.long xb), .second, .val (.long xc), .second, .val (.int xq), .val (.long xr), .second, .val (.int pA), .val (.int pB), .val (.int pC), .val (.long xa), .second, .val (.long gA), .second, .val (.long lB), .second, .val (.long gB), .second, .val (.long lC), .second, .val (.long gC), .second, .unset, .unset, .unset, .unset, .unset, .unset, .unset, .unset, .unset, .unset, .unset, .unset, .unset] []))
          refine o_iload hst X_7.here hx (hb hby at_163) (pc' := 165) rfl rfl ?_
          refine o_lload hst X_7.here hx (hb hby at_165) (pc' := 167) rfl rfl ?_
          refine o_lload hst X_7.here hx (hb hby at_167) (pc' := 169) rfl rfl ?_
          refine o_iload hst X_7.here hx (hb hby at_169) (pc' := 171) rfl rfl ?_
          refine o_lload hst X_7.here hx (hb hby at_171) (pc' := 173) rfl rfl ?_
          refine o_lload hst X_7.here hx (hb hby at_173) (pc' := 175) rfl rfl ?_
          obtain ⟨_, _, ⟨T_8, L_8, k_8, n_8⟩, -, X_8, ⟨Lc_8, hQ_8, l_8, y_8, z_8⟩, st_8⟩ := Jvm.LawKit.callS X_7 hx (y := (⟨x.cls, "clash", "(IJJIJJ)Z"⟩ : MethodName)) hown (mvT hZ (own_w8 hw)) (mvT hZ (own_w9 hw)) (mvT hZ (own_w2 hw)) (mvT hZ (own_w10 hw)) (by decide) (backOf (W := 0) (rmcl lL Z a0 hw [] pB lB gB pC lC gC  h0 n0 Z0) hZ (own_w10 hw) (own_w2 hw) (by decide) (by decide)) (g := (mkF mI 175 #[.val (.int sh), .val (.long xa), .second, .val (.long xb), .second, .val (.long xc), .second, .val (.int xq), .val (.long xr), .second, .val (.int pA), .val (.int pB), .val (.int pC), .val (.long xa), .second, .val (.long gA), .second, .val (.long lB), .second, .val (.long gB), .second, .val (.long lC), .second, .val (.long gC), .second, .unset, .unset, .unset, .unset, .unset, .unset, .unset, .unset, .unset, .unset, .unset, .unset, .unset] [(.long gC), (.long lC), (.int pC), (.long gB), (.long lB), (.int pB)])) rfl (by rw [hml]; rfl) (argsL := [(.int pB), (.long lB), (.long gB), (.int pC), (.long lC), (.long gC)]) (rest := []) (lenOf pd_13 rfl) rfl (by show 2 * 0 + _ ≤ _; exact Nat.le_of_eq rfl) (hb hby at_175) (fun _ _ => ⟨rfl, eh_7, (by decide : 0 + 0 ≤ _), (by decide : 0 + 0 ≤ _)⟩)
          dsimp only [Pt.U, Pt.locs, Pt.cells, Pt.slots] at X_8 l_8 y_8 z_8 st_8 hQ_8
          subst l_8 y_8 z_8
          obtain ⟨rfl, N_8q, eh_8⟩ := hQ_8
          have N_8 := Fr.app N_7 N_8q
          refine hst (fun _ kt => st_8 _ kt) ?_
          show G (T_8.setTop (mkF mI 178 #[.val (.int sh), .val (.long xa), .second, .val (.long xb), .second, .val (.long xc), .second, .val (.int xq), .val (.long xr), .second, .val (.int pA), .val (.int pB), .val (.int pC), .val (.long xa), .second, .val (.long gA), .second, .val (.long lB), .second, .val (.long gB), .second, .val (.long lC), .second, .val (.long gC), .second, .unset, .unset, .unset, .unset, .unset, .unset, .unset, .unset, .unset, .unset, .unset, .unset, .unset] [(.int (own_cl pB lB gB pC lC gC))]))
          by_cases hBC : (own_cl pB lB gB pC lC gC) = (0 : Int32)
          ·
            refine hst (fun _ kt => XS.ifYes X_8.here hx rfl (pc0 := 178) (pc' := 183) rfl (hb hby at_178) rfl ((if0 _ _).trans (teq hBC).1) (by decide) (by decide) kt) ?_
            show G (T_8.setTop (mkF mI 183 #[.val (.int sh), .val (.long xa), .second, .val (.long xb), .second, .val (.long xc), .second, .val (.int xq), .val (.long xr), .second, .val (.int pA), .val (.int pB), .val (.int pC), .val (.long xa), .second, .val (.long gA), .second, .val (.long lB), .second, .val (.long gB), .second, .val (.long lC), .second, .val (.long gC), .second, .unset, .unset, .unset, .unset, .unset, .unset, .unset, .unset, .unset, .unset, .unset, .unset, .unset] []))
            refine o_iload hst X_8.here hx (hb hby at_183) (pc' := 185) rfl rfl ?_
            refine o_bipush hst X_8.here hx (hb hby at_185) (pc' := 187) rfl (z := (48 : Int32)) rfl ?_
            refine o_iand hst X_8.here hx (hb hby at_187) (pc' := 188) rfl ?_
            refine o_bipush hst X_8.here hx (hb hby at_188) (pc' := 190) rfl (z := (48 : Int32)) rfl ?_
            have J204 : ∀ (q : Int32), G (T_8.setTop (mkF mI 204 #[.val (.int sh), .val (.long xa), .second, .val (.long xb), .second, .val (.long xc), .second, .val (.int xq), .val (.long xr), .second, .val (.int pA), .val (.int pB), .val (.int pC), .val (.long xa), .second, .val (.long gA), .second, .val (.long lB), .second, .val (.long gB), .second, .val (.long lC), .second, .val (.long gC), .second, .unset, .unset, .unset, .unset, .unset, .unset, .unset, .unset, .unset, .unset, .unset, .unset, .unset] [(.int q)])) := by
              intro q
              show G (T_8.setTop (mkF mI 204 #[.val (.int sh), .val (.long xa), .second, .val (.long xb), .second, .val (.long xc), .second, .val (.int xq), .val (.long xr), .second, .val (.int pA), .val (.int pB), .val (.int pC), .val (.long xa), .second, .val (.long gA), .second, .val (.long lB), .second, .val (.long gB), .second, .val (.long lC), .second, .val (.long gC), .second, .unset, .unset, .unset, .unset, .unset, .unset, .unset, .unset, .unset, .unset, .unset, .unset, .unset] [(.int q)]))
              refine o_istore hst X_8.here hx (hb hby at_204) (pc' := 206) rfl (Lt := #[.val (.int sh), .val (.long xa), .second, .val (.long xb), .second, .val (.long xc), .second, .val (.int xq), .val (.long xr), .second, .val (.int pA), .val (.int pB), .val (.int pC), .val (.long xa), .second, .val (.long gA), .second, .val (.long lB), .second, .val (.long gB), .second, .val (.long lC), .second, .val (.long gC), .second, .val (.int q), .unset, .unset, .unset, .unset, .unset, .unset, .unset, .unset, .unset, .unset, .unset, .unset]) rfl ?_
              refine o_iload hst X_8.here hx (hb hby at_206) (pc' := 208) rfl rfl ?_
              refine o_bipush hst X_8.here hx (hb hby at_208) (pc' := 210) rfl (z := (6 : Int32)) rfl ?_
              refine o_iushr hst X_8.here hx (hb hby at_210) (pc' := 211) rfl ?_
              refine o_iconst hst X_8.here hx (hb hby at_211) (pc' := 212) rfl (z := (3 : Int32)) rfl ?_
              refine o_iand hst X_8.here hx (hb hby at_212) (pc' := 213) rfl ?_
              generalize (((xq.toUInt32 >>> ((6 : Int32) &&& 31).toUInt32).toInt32) &&& (3 : Int32)) = pk
              show G (T_8.setTop (mkF mI 213 #[.val (.int sh), .val (.long xa), .second, .val (.long xb), .second, .val (.long xc), .second, .val (.int xq), .val (.long xr), .second, .val (.int pA), .val (.int pB), .val (.int pC), .val (.long xa), .second, .val (.long gA), .second, .val (.long lB), .second, .val (.long gB), .second, .val (.long lC), .second, .val (.long gC), .second, .val (.int q), .unset, .unset, .unset, .unset, .unset, .unset, .unset, .unset, .unset, .unset, .unset, .unset] [(.int pk)]))
              refine o_istore hst X_8.here hx (hb hby at_213) (pc' := 215) rfl (Lt := #[.val (.int sh), .val (.long xa), .second, .val (.long xb), .second, .val (.long xc), .second, .val (.int xq), .val (.long xr), .second, .val (.int pA), .val (.int pB), .val (.int pC), .val (.long xa), .second, .val (.long gA), .second, .val (.long lB), .second, .val (.long gB), .second, .val (.long lC), .second, .val (.long gC), .second, .val (.int q), .val (.int pk), .unset, .unset, .unset, .unset, .unset, .unset, .unset, .unset, .unset, .unset, .unset]) rfl ?_
              refine o_iload hst X_8.here hx (hb hby at_215) (pc' := 217) rfl rfl ?_
              refine o_bipush hst X_8.here hx (hb hby at_217) (pc' := 219) rfl (z := (8 : Int32)) rfl ?_
              refine o_iushr hst X_8.here hx (hb hby at_219) (pc' := 220) rfl ?_
              refine o_bipush hst X_8.here hx (hb hby at_220) (pc' := 222) rfl (z := (15 : Int32)) rfl ?_
              refine o_iand hst X_8.here hx (hb hby at_222) (pc' := 223) rfl ?_
              refine o_iconst hst X_8.here hx (hb hby at_223) (pc' := 224) rfl (z := (4 : Int32)) rfl ?_
              refine o_isub hst X_8.here hx (hb hby at_224) (pc' := 225) rfl ?_
              refine o_i2l hst X_8.here hx (hb hby at_225) (pc' := 226) rfl ?_
              generalize (((((xq.toUInt32 >>> ((8 : Int32) &&& 31).toUInt32).toInt32) &&& (15 : Int32)) - (4 : Int32)).toInt64) = dl
              show G (T_8.setTop (mkF mI 226 #[.val (.int sh), .val (.long xa), .second, .val (.long xb), .second, .val (.long xc), .second, .val (.int xq), .val (.long xr), .second, .val (.int pA), .val (.int pB), .val (.int pC), .val (.long xa), .second, .val (.long gA), .second, .val (.long lB), .second, .val (.long gB), .second, .val (.long lC), .second, .val (.long gC), .second, .val (.int q), .val (.int pk), .unset, .unset, .unset, .unset, .unset, .unset, .unset, .unset, .unset, .unset, .unset] [(.long dl)]))
              refine o_lstore hst X_8.here hx (hb hby at_226) (pc' := 228) rfl (Lt := #[.val (.int sh), .val (.long xa), .second, .val (.long xb), .second, .val (.long xc), .second, .val (.int xq), .val (.long xr), .second, .val (.int pA), .val (.int pB), .val (.int pC), .val (.long xa), .second, .val (.long gA), .second, .val (.long lB), .second, .val (.long gB), .second, .val (.long lC), .second, .val (.long gC), .second, .val (.int q), .val (.int pk), .val (.long dl), .second, .unset, .unset, .unset, .unset, .unset, .unset, .unset, .unset, .unset]) rfl ?_
              refine o_iload hst X_8.here hx (hb hby at_228) (pc' := 230) rfl rfl ?_
              have J285 : ∀ (r : Int64) (Tj_9 : State) (lj_9 : List Loc) (Xj_9 : Stand pP lL eE room_1 sS mI #[(.int sh), (.long xa), (.long xb), (.long xc), (.int xq), (.long xr)] below meth cC Tj_9 lj_9 0 0) (ej_9 : Tj_9.heap = h0) (Nj_9 : Fr n0 lj_9), G (Tj_9.setTop (mkF mI 285 #[.val (.int sh), .val (.long xa), .second, .val (.long xb), .second, .val (.long xc), .second, .val (.int xq), .val (.long xr), .second, .val (.int pA), .val (.int pB), .val (.int pC), .val (.long xa), .second, .val (.long gA), .second, .val (.long lB), .second, .val (.long gB), .second, .val (.long lC), .second, .val (.long gC), .second, .val (.int q), .val (.int pk), .val (.long dl), .second, .val (.long r), .second, .unset, .unset, .unset, .unset, .unset, .unset, .unset] [])) := by
                intro r Tj_9 lj_9 Xj_9 ej_9 Nj_9
                show G (Tj_9.setTop (mkF mI 285 #[.val (.int sh), .val (.long xa), .second, .val (.long xb), .second, .val (.long xc), .second, .val (.int xq), .val (.long xr), .second, .val (.int pA), .val (.int pB), .val (.int pC), .val (.long xa), .second, .val (.long gA), .second, .val (.long lB), .second, .val (.long gB), .second, .val (.long lC), .second, .val (.long gC), .second, .val (.int q), .val (.int pk), .val (.long dl), .second, .val (.long r), .second, .unset, .unset, .unset, .unset, .unset, .unset, .unset] []))
                refine o_iconst hst Xj_9.here hx (hb hby at_285) (pc' := 286) rfl (z := (0 : Int32)) rfl ?_
                obtain ⟨T_10, h_10, k_no, X_10, e_10, E_10, A_10, st_10⟩ := newP (aty := .int) Xj_9 hx hZ (own_w12 hw) ej_9 (g := (mkF mI 286 #[.val (.int sh), .val (.long xa), .second, .val (.long xb), .second, .val (.long xc), .second, .val (.int xq), .val (.long xr), .second, .val (.int pA), .val (.int pB), .val (.int pC), .val (.long xa), .second, .val (.long gA), .second, .val (.long lB), .second, .val (.long gB), .second, .val (.long lC), .second, .val (.long gC), .second, .val (.int q), .val (.int pk), .val (.long dl), .second, .val (.long r), .second, .unset, .unset, .unset, .unset, .unset, .unset, .unset] [(.int (0 : Int32))])) rfl (hb hby at_286) rfl (by decide) (cap := 0) (by decide) (by decide) (by decide) (by decide)
                obtain ⟨no, g_no⟩ : ∃ z, z = h0.size := ⟨_, rfl⟩
                rw [← g_no] at A_10 st_10
                have le_n0_no : n0 ≤ no := Nat.le_trans Z0 (Nat.le_of_eq g_no.symm)
                have Z0 := Nat.le_trans Z0 E_10.1
                have S_n1 := S_n1.ext E_10
                have S_n2 := S_n2.ext E_10
                have S_k := S_k.ext E_10
                have E_tk := E_tk.ext E_10
                have V_no : Arv Z h_10 no k_no .int (0 : Int32) [] (.int (0 : Int32)) := Arv.new A_10 (by decide)
                refine hst st_10 ?_
                show G (T_10.setTop (mkF mI 288 #[.val (.int sh), .val (.long xa), .second, .val (.long xb), .second, .val (.long xc), .second, .val (.int xq), .val (.long xr), .second, .val (.int pA), .val (.int pB), .val (.int pC), .val (.long xa), .second, .val (.long gA), .second, .val (.long lB), .second, .val (.long gB), .second, .val (.long lC), .second, .val (.long gC), .second, .val (.int q), .val (.int pk), .val (.long dl), .second, .val (.long r), .second, .unset, .unset, .unset, .unset, .unset, .unset, .unset] [(.ref no)]))
                refine o_astore hst X_10.here hx (hb hby at_288) (pc' := 290) rfl (Lt := #[.val (.int sh), .val (.long xa), .second, .val (.long xb), .second, .val (.long xc), .second, .val (.int xq), .val (.long xr), .second, .val (.int pA), .val (.int pB), .val (.int pC), .val (.long xa), .second, .val (.long gA), .second, .val (.long lB), .second, .val (.long gB), .second, .val (.long lC), .second, .val (.long gC), .second, .val (.int q), .val (.int pk), .val (.long dl), .second, .val (.long r), .second, .val (.ref no), .unset, .unset, .unset, .unset, .unset, .unset]) rfl rfl ?_
                obtain ⟨T_11, h_11, X_11, e_11, E_11, A_11, D_11, -, st_11⟩ := newO X_10 hx hZ hown (own_w13 hw) (own_w14 hw) (own_w15 hw) e_10 (g := (mkF mI 290 #[.val (.int sh), .val (.long xa), .second, .val (.long xb), .second, .val (.long xc), .second, .val (.int xq), .val (.long xr), .second, .val (.int pA), .val (.int pB), .val (.int pC), .val (.long xa), .second, .val (.long gA), .second, .val (.long lB), .second, .val (.long gB), .second, .val (.long lC), .second, .val (.long gC), .second, .val (.int q), .val (.int pk), .val (.long dl), .second, .val (.long r), .second, .val (.ref no), .unset, .unset, .unset, .unset, .unset, .unset] [])) rfl (hb hby at_290) (by decide) (by decide)
                obtain ⟨reg, g_reg⟩ : ∃ z, z = h_10.size := ⟨_, rfl⟩
                rw [← g_reg] at A_11 D_11 st_11
                have ne_no_reg : no ≠ reg := Nat.ne_of_lt (Nat.lt_of_lt_of_le V_no.lt (Nat.le_of_eq g_reg.symm))
                have le_n0_reg : n0 ≤ reg := Nat.le_trans Z0 (Nat.le_of_eq g_reg.symm)
                have Z0 := Nat.le_trans Z0 E_11.1
                have S_n1 := S_n1.ext E_11
                have S_n2 := S_n2.ext E_11
                have S_k := S_k.ext E_11
                have E_tk := E_tk.ext E_11
                have V_no := V_no.ext E_11
                have E_reg : Exa Z h_11 reg own_SS := A_11
                have F_setsByTakes_reg : Fld Z h_11 reg own_SS "setsByTakes" "Ljava/util/Map;" .null := D_11 (Or.inr (own_w39 hw)) (ty := (.object "java/util/Map")) (by decide)
                have F_setsBySize_reg : Fld Z h_11 reg own_SS "setsBySize" "Ljava/util/Map;" .null := D_11 (Or.inr (own_w41 hw)) (ty := (.object "java/util/Map")) (by decide)
                have F_firsts_reg : Fld Z h_11 reg own_SS "firsts" "[I" .null := D_11 (Or.inl (own_w43 hw)) (ty := (.array .int)) (by decide)
                have F_startingAt_reg : Fld Z h_11 reg own_SS "startingAt" own_aRUN .null := D_11 (Or.inr (own_w47 hw)) (ty := (.array (.object own_RUN))) (by decide)
                have F_reach_reg : Fld Z h_11 reg own_SS "reach" own_dRT .null := D_11 (Or.inr (own_w64 hw)) (ty := (.object own_RT)) (by decide)
                have F_kept_reg : Fld Z h_11 reg own_SS "kept" own_dST .null := D_11 (Or.inl (own_w124 hw)) (ty := (.object own_ST)) (by decide)
                refine hst st_11 ?_
                show G (T_11.setTop (mkF mI 293 #[.val (.int sh), .val (.long xa), .second, .val (.long xb), .second, .val (.long xc), .second, .val (.int xq), .val (.long xr), .second, .val (.int pA), .val (.int pB), .val (.int pC), .val (.long xa), .second, .val (.long gA), .second, .val (.long lB), .second, .val (.long gB), .second, .val (.long lC), .second, .val (.long gC), .second, .val (.int q), .val (.int pk), .val (.long dl), .second, .val (.long r), .second, .val (.ref no), .unset, .unset, .unset, .unset, .unset, .unset] [(.ref reg)]))
                refine o_dup hst X_11.here hx (hb hby at_293) (pc' := 294) rfl rfl ?_
                refine o_iconst hst X_11.here hx (hb hby at_294) (pc' := 295) rfl (z := (1 : Int32)) rfl ?_
                obtain ⟨_, _, ⟨T_12, L_12, k_12, n_12⟩, -, X_12, ⟨Lc_12, hQ_12, l_12, y_12, z_12⟩, st_12⟩ := X_11.specialBack hx (y := (⟨own_SS, "<init>", "(I)V"⟩ : MethodName)) rfl hown (mvT hZ (own_w16 hw)) (mvT hZ (own_w17 hw)) (mvT hZ (own_w18 hw)) (by decide) (backOf (W := 1) (rmrs lL Z a0 hw [] reg  h_11 n0 Z0 F_setsByTakes_reg F_setsBySize_reg F_firsts_reg F_startingAt_reg F_reach_reg F_kept_reg E_reg le_n0_reg) hZ (own_w18 hw) (own_w15 hw) (by decide) (by decide)) (g := (mkF mI 295 #[.val (.int sh), .val (.long xa), .second, .val (.long xb), .second, .val (.long xc), .second, .val (.int xq), .val (.long xr), .second, .val (.int pA), .val (.int pB), .val (.int pC), .val (.long xa), .second, .val (.long gA), .second, .val (.long lB), .second, .val (.long gB), .second, .val (.long lC), .second, .val (.long gC), .second, .val (.int q), .val (.int pk), .val (.long dl), .second, .val (.long r), .second, .val (.ref no), .unset, .unset, .unset, .unset, .unset, .unset] [(.int (1 : Int32)), (.ref reg), (.ref reg)])) rfl (by rw [hml]; rfl) (Steps.refl _) (a := reg) (argsL := [(.int (1 : Int32))]) (rest := [(.ref reg)]) (lenOf pd_2 rfl) rfl (by show 2 * 0 + _ ≤ _; exact Nat.le_of_eq rfl) (hb hby at_295) (fun _ _ => ⟨rfl, e_11, (by decide : 2 + 6 ≤ _), (by decide : 7 + 37 ≤ _)⟩)
                dsimp only [Pt.U, Pt.locs, Pt.cells, Pt.slots] at X_12 l_12 y_12 z_12 st_12 hQ_12
                subst l_12 y_12 z_12
                obtain ⟨rfl, N_12q, K_12, G1⟩ := hQ_12
                have S_n1 := own_Sta_keepL S_n1 K_12 (allS ⟨_, E_reg⟩ all0)
                have S_n2 := own_Sta_keepL S_n2 K_12 (allS ⟨_, E_reg⟩ all0)
                have S_k := own_Sta_keepL S_k K_12 (allS ⟨_, E_reg⟩ all0)
                have Z0 := Nat.le_trans Z0 K_12.1
                have E_tk := E_tk.keep K_12
                have V_no := V_no.keep K_12 (ninS ne_no_reg nin0)
                have E_reg := E_reg.keep K_12
                have F_kept_reg := G1
                have N_12 := Fr.app Nj_9 N_12q
                refine hst (fun _ kt => st_12.trans kt) ?_
                show G (T_12.setTop (mkF mI 298 #[.val (.int sh), .val (.long xa), .second, .val (.long xb), .second, .val (.long xc), .second, .val (.int xq), .val (.long xr), .second, .val (.int pA), .val (.int pB), .val (.int pC), .val (.long xa), .second, .val (.long gA), .second, .val (.long lB), .second, .val (.long gB), .second, .val (.long lC), .second, .val (.long gC), .second, .val (.int q), .val (.int pk), .val (.long dl), .second, .val (.long r), .second, .val (.ref no), .unset, .unset, .unset, .unset, .unset, .unset] [(.ref reg)]))
                refine o_astore hst X_12.here hx (hb hby at_298) (pc' := 300) rfl (Lt := #[.val (.int sh), .val (.long xa), .second, .val (.long xb), .second, .val (.long xc), .second, .val (.int xq), .val (.long xr), .second, .val (.int pA), .val (.int pB), .val (.int pC), .val (.long xa), .second, .val (.long gA), .second, .val (.long lB), .second, .val (.long gB), .second, .val (.long lC), .second, .val (.long gC), .second, .val (.int q), .val (.int pk), .val (.long dl), .second, .val (.long r), .second, .val (.ref no), .val (.ref reg), .unset, .unset, .unset, .unset, .unset]) rfl rfl ?_
                refine o_aload hst X_12.here hx (hb hby at_300) (pc' := 302) rfl rfl rfl ?_
                obtain ⟨cq_13, kq_13, q_13a, q_13b, q_13c⟩ := isOf hZ rfl E_reg
                obtain ⟨_, _, ⟨T_13, L_13, k_13, n_13⟩, -, X_13, ⟨Lc_13, hQ_13, l_13, y_13, z_13⟩, st_13⟩ := X_12.virtualBack hx (y := (⟨own_SS, "alone", "()Lcom/example/tierfold/tierfold/tiered/TailSet;"⟩ : MethodName)) (z := (⟨own_SS, "alone", "()Lcom/example/tierfold/tierfold/tiered/TailSet;"⟩ : MethodName)) hown (mvT hZ (own_w65 hw)) (mvT hZ (own_w66 hw)) (notFace_of_selects (args := #[]) (mvT hZ (own_w68 hw))) (mvT hZ (own_w68 hw)) (mvT hZ (own_w67 hw)) (by decide) (backOf (W := 0) (rmal lL Z a0 hw [] reg ns nc T_12.heap n0 Z0 S_n1 S_n2) hZ (own_w69 hw) (own_w15 hw) (by decide) (by decide)) q_13a q_13c (g := (mkF mI 302 #[.val (.int sh), .val (.long xa), .second, .val (.long xb), .second, .val (.long xc), .second, .val (.int xq), .val (.long xr), .second, .val (.int pA), .val (.int pB), .val (.int pC), .val (.long xa), .second, .val (.long gA), .second, .val (.long lB), .second, .val (.long gB), .second, .val (.long lC), .second, .val (.long gC), .second, .val (.int q), .val (.int pk), .val (.long dl), .second, .val (.long r), .second, .val (.ref no), .val (.ref reg), .unset, .unset, .unset, .unset, .unset] [(.ref reg)])) rfl (by rw [hml]; rfl) (Steps.refl _) (argsL := []) (rest := []) (lenOf pd_14 rfl) rfl (by show 2 * 0 + _ ≤ _; exact Nat.le_of_eq rfl) (hb hby at_302) (fun _ _ => ⟨rfl, rfl, (by decide : 8 + 1 ≤ _), (by decide : 44 + 7 ≤ _)⟩)
                dsimp only [Pt.U, Pt.locs, Pt.cells, Pt.slots] at X_13 l_13 y_13 z_13 st_13 hQ_13
                subst l_13 y_13 z_13
                obtain ⟨ts, rfl, N_13q, K_13⟩ := hQ_13
                have S_k := own_Sta_keepL S_k K_13 all0
                have Z0 := Nat.le_trans Z0 K_13.1
                have E_tk := E_tk.keep K_13
                have V_no := V_no.keep K_13 nin0
                have E_reg := E_reg.keep K_13
                have F_kept_reg := F_kept_reg.keep K_13 nin0
                have N_13 := Fr.app N_12 N_13q
                refine hst (fun _ kt => st_13.trans kt) ?_
                show G (T_13.setTop (mkF mI 305 #[.val (.int sh), .val (.long xa), .second, .val (.long xb), .second, .val (.long xc), .second, .val (.int xq), .val (.long xr), .second, .val (.int pA), .val (.int pB), .val (.int pC), .val (.long xa), .second, .val (.long gA), .second, .val (.long lB), .second, .val (.long gB), .second, .val (.long lC), .second, .val (.long gC), .second, .val (.int q), .val (.int pk), .val (.long dl), .second, .val (.long r), .second, .val (.ref no), .val (.ref reg), .unset, .unset, .unset, .unset, .unset] [(.ref ts)]))
                refine o_astore hst X_13.here hx (hb hby at_305) (pc' := 307) rfl (Lt := #[.val (.int sh), .val (.long xa), .second, .val (.long xb), .second, .val (.long xc), .second, .val (.int xq), .val (.long xr), .second, .val (.int pA), .val (.int pB), .val (.int pC), .val (.long xa), .second, .val (.long gA), .second, .val (.long lB), .second, .val (.long gB), .second, .val (.long lC), .second, .val (.long gC), .second, .val (.int q), .val (.int pk), .val (.long dl), .second, .val (.long r), .second, .val (.ref no), .val (.ref reg), .val (.ref ts), .unset, .unset, .unset, .unset]) rfl rfl ?_
                refine o_aload hst X_13.here hx (hb hby at_307) (pc' := 309) rfl rfl rfl ?_
                refine o_iload hst X_13.here hx (hb hby at_309) (pc' := 311) rfl rfl ?_
                refine o_aload hst X_13.here hx (hb hby at_311) (pc' := 313) rfl rfl rfl ?_
                refine o_lconst hst X_13.here hx (hb hby at_313) (pc' := 314) rfl (z := (0 : Int64)) rfl ?_
                refine o_lconst hst X_13.here hx (hb hby at_314) (pc' := 315) rfl (z := (0 : Int64)) rfl ?_
                refine o_lload hst X_13.here hx (hb hby at_315) (pc' := 317) rfl rfl ?_
                refine o_lload hst X_13.here hx (hb hby at_317) (pc' := 319) rfl rfl ?_
                refine o_aload hst X_13.here hx (hb hby at_319) (pc' := 321) rfl rfl rfl ?_
                have C_0 : own_Tr Z T_13.heap 0 .null [] := own_Tr_null
                have cAB := own_cmpc hAB
                have cAC := own_cmpc hAC
                have cBC := own_cmpc hBC
                have D0 : (own_as []).Pairwise (· ≠ ·) := List.Pairwise.nil
                have S0 : ([] : List own_R).Pairwise own_bf := List.Pairwise.nil
                have B0 : ∀ x ∈ own_as [], n0 ≤ x := all0
                have HL0 : ∀ x ∈ ([] : List own_R), own_kk x.2.1 x.2.2.1 pA xa ∨ own_kk pA xa x.2.1 x.2.2.1 := (fun _ q => nomatch q)
                obtain ⟨cq_14, kq_14, q_14a, q_14b, q_14c⟩ := isOf hZ rfl E_reg
                obtain ⟨_, _, ⟨T_14, L_14, k_14, n_14⟩, -, X_14, ⟨Lc_14, hQ_14, l_14, y_14, z_14⟩, st_14⟩ := X_13.virtualBack hx (y := (⟨own_SS, "add", "(I[IJJJJLcom/example/tierfold/tierfold/tiered/TailSet;)Lcom/example/tierfold/tierfold/tiered/SharedTail;"⟩ : MethodName)) (z := (⟨own_SS, "add", "(I[IJJJJLcom/example/tierfold/tierfold/tiered/TailSet;)Lcom/example/tierfold/tierfold/tiered/SharedTail;"⟩ : MethodName)) hown (mvT hZ (own_w93 hw)) (mvT hZ (own_w94 hw)) (notFace_of_selects (args := #[]) (mvT hZ (own_w96 hw))) (mvT hZ (own_w96 hw)) (mvT hZ (own_w95 hw)) (by decide) (backOf (W := 0) (rmad0 lL Z a0 hw [] reg pA no xa gA ts k_no tk .null [] T_13.heap n0 Z0 F_kept_reg E_reg le_n0_reg S_k E_tk V_no C_0 D0 S0 B0 HL0) hZ (own_w97 hw) (own_w15 hw) (by decide) (by decide)) q_14a q_14c (g := (mkF mI 321 #[.val (.int sh), .val (.long xa), .second, .val (.long xb), .second, .val (.long xc), .second, .val (.int xq), .val (.long xr), .second, .val (.int pA), .val (.int pB), .val (.int pC), .val (.long xa), .second, .val (.long gA), .second, .val (.long lB), .second, .val (.long gB), .second, .val (.long lC), .second, .val (.long gC), .second, .val (.int q), .val (.int pk), .val (.long dl), .second, .val (.long r), .second, .val (.ref no), .val (.ref reg), .val (.ref ts), .unset, .unset, .unset, .unset] [(.ref ts), (.long gA), (.long xa), (.long (0 : Int64)), (.long (0 : Int64)), (.ref no), (.int pA), (.ref reg)])) rfl (by rw [hml]; rfl) (Steps.refl _) (argsL := [(.int pA), (.ref no), (.long (0 : Int64)), (.long (0 : Int64)), (.long xa), (.long gA), (.ref ts)]) (rest := []) (lenOf pd_15 rfl) rfl (by show 2 * 0 + _ ≤ _; exact Nat.le_of_eq rfl) (hb hby at_321) (fun _ _ => ⟨rfl, rfl, (by decide : 9 + 1 ≤ _), (by decide : 51 + 21 ≤ _)⟩)
                dsimp only [Pt.U, Pt.locs, Pt.cells, Pt.slots] at X_14 l_14 y_14 z_14 st_14 hQ_14
                subst l_14 y_14 z_14
                obtain ⟨tA, rb0, La0, Lb0, rfl, N_14q, K_14, le_tA, G0, C_w, eL0, b1, b2⟩ := hQ_14
                have f0 := own_Tr_fresh C_0 le_tA
                have dV0 := own_ninV V_no C_0 (own_w99 hw)
                obtain ⟨Lq1, C_1, S1, D1, B1, m1⟩ : ∃ M, own_Tr Z T_14.heap 1 (.ref rb0) M ∧ M.Pairwise own_bf ∧ (own_as M).Pairwise (· ≠ ·) ∧ (∀ x ∈ own_as M, n0 ≤ x) ∧ ∀ x : own_R, x ∈ M ↔ x = (tA, pA, xa, gA) ∨ x ∈ ([] : List own_R) := ⟨_, C_w, own_step S0 D0 B0 eL0 b1 b2 f0 (Nat.le_trans Z0 le_tA)⟩
                have q0 : ∀ x ∈ reg :: own_as [], ∃ D, Exa Z T_13.heap x D := allS ⟨_, E_reg⟩ (fun x hx => ⟨_, own_Tr_exa C_0 x hx⟩)
                have S_k := own_Sta_keepL S_k K_14 q0
                have Z0 := Nat.le_trans Z0 K_14.1
                have E_tk := E_tk.keep K_14
                have V_no := V_no.keep K_14 (ninS ne_no_reg dV0)
                have E_reg := E_reg.keep K_14
                have F_kept_reg := G0
                have N_14 := Fr.app N_13 N_14q
                refine hst (fun _ kt => st_14.trans kt) ?_
                show G (T_14.setTop (mkF mI 324 #[.val (.int sh), .val (.long xa), .second, .val (.long xb), .second, .val (.long xc), .second, .val (.int xq), .val (.long xr), .second, .val (.int pA), .val (.int pB), .val (.int pC), .val (.long xa), .second, .val (.long gA), .second, .val (.long lB), .second, .val (.long gB), .second, .val (.long lC), .second, .val (.long gC), .second, .val (.int q), .val (.int pk), .val (.long dl), .second, .val (.long r), .second, .val (.ref no), .val (.ref reg), .val (.ref ts), .unset, .unset, .unset, .unset] [(.ref tA)]))
                refine o_astore hst X_14.here hx (hb hby at_324) (pc' := 326) rfl (Lt := #[.val (.int sh), .val (.long xa), .second, .val (.long xb), .second, .val (.long xc), .second, .val (.int xq), .val (.long xr), .second, .val (.int pA), .val (.int pB), .val (.int pC), .val (.long xa), .second, .val (.long gA), .second, .val (.long lB), .second, .val (.long gB), .second, .val (.long lC), .second, .val (.long gC), .second, .val (.int q), .val (.int pk), .val (.long dl), .second, .val (.long r), .second, .val (.ref no), .val (.ref reg), .val (.ref ts), .val (.ref tA), .unset, .unset, .unset]) rfl rfl ?_
                refine o_aload hst X_14.here hx (hb hby at_326) (pc' := 328) rfl rfl rfl ?_
                refine o_iload hst X_14.here hx (hb hby at_328) (pc' := 330) rfl rfl ?_
                refine o_aload hst X_14.here hx (hb hby at_330) (pc' := 332) rfl rfl rfl ?_
                refine o_lconst hst X_14.here hx (hb hby at_332) (pc' := 333) rfl (z := (0 : Int64)) rfl ?_
                refine o_lconst hst X_14.here hx (hb hby at_333) (pc' := 334) rfl (z := (0 : Int64)) rfl ?_
                refine o_lload hst X_14.here hx (hb hby at_334) (pc' := 336) rfl rfl ?_
                refine o_lload hst X_14.here hx (hb hby at_336) (pc' := 338) rfl rfl ?_
                refine o_aload hst X_14.here hx (hb hby at_338) (pc' := 340) rfl rfl rfl ?_
                have HL1 : ∀ x ∈ Lq1, own_kk x.2.1 x.2.2.1 pB lB ∨ own_kk pB lB x.2.1 x.2.2.1 := (fun x hx => by
                  rcases (m1 x).mp hx with rfl | hx
                  · exact cAB
                  · cases hx)
                obtain ⟨cq_15, kq_15, q_15a, q_15b, q_15c⟩ := isOf hZ rfl E_reg
                obtain ⟨_, _, ⟨T_15, L_15, k_15, n_15⟩, -, X_15, ⟨Lc_15, hQ_15, l_15, y_15, z_15⟩, st_15⟩ := X_14.virtualBack hx (y := (⟨own_SS, "add", "(I[IJJJJLcom/example/tierfold/tierfold/tiered/TailSet;)Lcom/example/tierfold/tierfold/tiered/SharedTail;"⟩ : MethodName)) (z := (⟨own_SS, "add", "(I[IJJJJLcom/example/tierfold/tierfold/tiered/TailSet;)Lcom/example/tierfold/tierfold/tiered/SharedTail;"⟩ : MethodName)) hown (mvT hZ (own_w93 hw)) (mvT hZ (own_w94 hw)) (notFace_of_selects (args := #[]) (mvT hZ (own_w96 hw))) (mvT hZ (own_w96 hw)) (mvT hZ (own_w95 hw)) (by decide) (backOf (W := 0) (rmad1 lL Z a0 hw [] reg pB no lB gB ts k_no tk (.ref rb0) Lq1 T_14.heap n0 Z0 F_kept_reg E_reg le_n0_reg S_k E_tk V_no C_1 D1 S1 B1 HL1) hZ (own_w97 hw) (own_w15 hw) (by decide) (by decide)) q_15a q_15c (g := (mkF mI 340 #[.val (.int sh), .val (.long xa), .second, .val (.long xb), .second, .val (.long xc), .second, .val (.int xq), .val (.long xr), .second, .val (.int pA), .val (.int pB), .val (.int pC), .val (.long xa), .second, .val (.long gA), .second, .val (.long lB), .second, .val (.long gB), .second, .val (.long lC), .second, .val (.long gC), .second, .val (.int q), .val (.int pk), .val (.long dl), .second, .val (.long r), .second, .val (.ref no), .val (.ref reg), .val (.ref ts), .val (.ref tA), .unset, .unset, .unset] [(.ref ts), (.long gB), (.long lB), (.long (0 : Int64)), (.long (0 : Int64)), (.ref no), (.int pB), (.ref reg)])) rfl (by rw [hml]; rfl) (Steps.refl _) (argsL := [(.int pB), (.ref no), (.long (0 : Int64)), (.long (0 : Int64)), (.long lB), (.long gB), (.ref ts)]) (rest := []) (lenOf pd_15 rfl) rfl (by show 2 * 0 + _ ≤ _; exact Nat.le_of_eq rfl) (hb hby at_340) (fun _ _ => ⟨rfl, rfl, (by decide : 10 + 2 ≤ _), (by decide : 72 + 23 ≤ _)⟩)
                dsimp only [Pt.U, Pt.locs, Pt.cells, Pt.slots] at X_15 l_15 y_15 z_15 st_15 hQ_15
                subst l_15 y_15 z_15
                obtain ⟨tB, rb1, La1, Lb1, rfl, N_15q, K_15, le_tB, G1, C_w, eL1, b1, b2⟩ := hQ_15
                have f1 := own_Tr_fresh C_1 le_tB
                have dV1 := own_ninV V_no C_1 (own_w99 hw)
                obtain ⟨Lq2, C_2, S2, D2, B2, m2⟩ : ∃ M, own_Tr Z T_15.heap 2 (.ref rb1) M ∧ M.Pairwise own_bf ∧ (own_as M).Pairwise (· ≠ ·) ∧ (∀ x ∈ own_as M, n0 ≤ x) ∧ ∀ x : own_R, x ∈ M ↔ x = (tB, pB, lB, gB) ∨ x ∈ Lq1 := ⟨_, C_w, own_step S1 D1 B1 eL1 b1 b2 f1 (Nat.le_trans Z0 le_tB)⟩
                have q1 : ∀ x ∈ reg :: own_as Lq1, ∃ D, Exa Z T_14.heap x D := allS ⟨_, E_reg⟩ (fun x hx => ⟨_, own_Tr_exa C_1 x hx⟩)
                have S_k := own_Sta_keepL S_k K_15 q1
                have Z0 := Nat.le_trans Z0 K_15.1
                have E_tk := E_tk.keep K_15
                have V_no := V_no.keep K_15 (ninS ne_no_reg dV1)
                have E_reg := E_reg.keep K_15
                have F_kept_reg := G1
                have N_15 := Fr.app N_14 N_15q
                refine hst (fun _ kt => st_15.trans kt) ?_
                show G (T_15.setTop (mkF mI 343 #[.val (.int sh), .val (.long xa), .second, .val (.long xb), .second, .val (.long xc), .second, .val (.int xq), .val (.long xr), .second, .val (.int pA), .val (.int pB), .val (.int pC), .val (.long xa), .second, .val (.long gA), .second, .val (.long lB), .second, .val (.long gB), .second, .val (.long lC), .second, .val (.long gC), .second, .val (.int q), .val (.int pk), .val (.long dl), .second, .val (.long r), .second, .val (.ref no), .val (.ref reg), .val (.ref ts), .val (.ref tA), .unset, .unset, .unset] [(.ref tB)]))
                refine o_astore hst X_15.here hx (hb hby at_343) (pc' := 345) rfl (Lt := #[.val (.int sh), .val (.long xa), .second, .val (.long xb), .second, .val (.long xc), .second, .val (.int xq), .val (.long xr), .second, .val (.int pA), .val (.int pB), .val (.int pC), .val (.long xa), .second, .val (.long gA), .second, .val (.long lB), .second, .val (.long gB), .second, .val (.long lC), .second, .val (.long gC), .second, .val (.int q), .val (.int pk), .val (.long dl), .second, .val (.long r), .second, .val (.ref no), .val (.ref reg), .val (.ref ts), .val (.ref tA), .val (.ref tB), .unset, .unset]) rfl rfl ?_
                refine o_aload hst X_15.here hx (hb hby at_345) (pc' := 347) rfl rfl rfl ?_
                refine o_iload hst X_15.here hx (hb hby at_347) (pc' := 349) rfl rfl ?_
                refine o_aload hst X_15.here hx (hb hby at_349) (pc' := 351) rfl rfl rfl ?_
                refine o_lconst hst X_15.here hx (hb hby at_351) (pc' := 352) rfl (z := (0 : Int64)) rfl ?_
                refine o_lconst hst X_15.here hx (hb hby at_352) (pc' := 353) rfl (z := (0 : Int64)) rfl ?_
                refine o_lload hst X_15.here hx (hb hby at_353) (pc' := 355) rfl rfl ?_
                refine o_lload hst X_15.here hx (hb hby at_355) (pc' := 357) rfl rfl ?_
                refine o_aload hst X_15.here hx (hb hby at_357) (pc' := 359) rfl rfl rfl ?_
                have HL2 : ∀ x ∈ Lq2, own_kk x.2.1 x.2.2.1 pC lC ∨ own_kk pC lC x.2.1 x.2.2.1 := (fun x hx => by
                  rcases (m2 x).mp hx with rfl | hx
                  · exact cBC
                  · rcases (m1 x).mp hx with rfl | hx
                    · exact cAC
                    · cases hx)
                obtain ⟨cq_16, kq_16, q_16a, q_16b, q_16c⟩ := isOf hZ rfl E_reg
                obtain ⟨_, _, ⟨T_16, L_16, k_16, n_16⟩, -, X_16, ⟨Lc_16, hQ_16, l_16, y_16, z_16⟩, st_16⟩ := X_15.virtualBack hx (y := (⟨own_SS, "add", "(I[IJJJJLcom/example/tierfold/tierfold/tiered/TailSet;)Lcom/example/tierfold/tierfold/tiered/SharedTail;"⟩ : MethodName)) (z := (⟨own_SS, "add", "(I[IJJJJLcom/example/tierfold/tierfold/tiered/TailSet;)Lcom/example/tierfold/tierfold/tiered/SharedTail;"⟩ : MethodName)) hown (mvT hZ (own_w93 hw)) (mvT hZ (own_w94 hw)) (notFace_of_selects (args := #[]) (mvT hZ (own_w96 hw))) (mvT hZ (own_w96 hw)) (mvT hZ (own_w95 hw)) (by decide) (backOf (W := 0) (rmad2 lL Z a0 hw [] reg pC no lC gC ts k_no tk (.ref rb1) Lq2 T_15.heap n0 Z0 F_kept_reg E_reg le_n0_reg S_k E_tk V_no C_2 D2 S2 B2 HL2) hZ (own_w97 hw) (own_w15 hw) (by decide) (by decide)) q_16a q_16c (g := (mkF mI 359 #[.val (.int sh), .val (.long xa), .second, .val (.long xb), .second, .val (.long xc), .second, .val (.int xq), .val (.long xr), .second, .val (.int pA), .val (.int pB), .val (.int pC), .val (.long xa), .second, .val (.long gA), .second, .val (.long lB), .second, .val (.long gB), .second, .val (.long lC), .second, .val (.long gC), .second, .val (.int q), .val (.int pk), .val (.long dl), .second, .val (.long r), .second, .val (.ref no), .val (.ref reg), .val (.ref ts), .val (.ref tA), .val (.ref tB), .unset, .unset] [(.ref ts), (.long gC), (.long lC), (.long (0 : Int64)), (.long (0 : Int64)), (.ref no), (.int pC), (.ref reg)])) rfl (by rw [hml]; rfl) (Steps.refl _) (argsL := [(.int pC), (.ref no), (.long (0 : Int64)), (.long (0 : Int64)), (.long lC), (.long gC), (.ref ts)]) (rest := []) (lenOf pd_15 rfl) rfl (by show 2 * 0 + _ ≤ _; exact Nat.le_of_eq rfl) (hb hby at_359) (fun _ _ => ⟨rfl, rfl, (by decide : 12 + 2 ≤ _), (by decide : 95 + 23 ≤ _)⟩)
                dsimp only [Pt.U, Pt.locs, Pt.cells, Pt.slots] at X_16 l_16 y_16 z_16 st_16 hQ_16
                subst l_16 y_16 z_16
                obtain ⟨tC, rb2, La2, Lb2, rfl, N_16q, K_16, le_tC, G2, C_w, eL2, b1, b2⟩ := hQ_16
                have f2 := own_Tr_fresh C_2 le_tC
                have dV2 := own_ninV V_no C_2 (own_w99 hw)
                obtain ⟨Lq3, C_3, S3, D3, B3, m3⟩ : ∃ M, own_Tr Z T_16.heap 3 (.ref rb2) M ∧ M.Pairwise own_bf ∧ (own_as M).Pairwise (· ≠ ·) ∧ (∀ x ∈ own_as M, n0 ≤ x) ∧ ∀ x : own_R, x ∈ M ↔ x = (tC, pC, lC, gC) ∨ x ∈ Lq2 := ⟨_, C_w, own_step S2 D2 B2 eL2 b1 b2 f2 (Nat.le_trans Z0 le_tC)⟩
                have q2 : ∀ x ∈ reg :: own_as Lq2, ∃ D, Exa Z T_15.heap x D := allS ⟨_, E_reg⟩ (fun x hx => ⟨_, own_Tr_exa C_2 x hx⟩)
                have S_k := own_Sta_keepL S_k K_16 q2
                have Z0 := Nat.le_trans Z0 K_16.1
                have E_tk := E_tk.keep K_16
                have V_no := V_no.keep K_16 (ninS ne_no_reg dV2)
                have E_reg := E_reg.keep K_16
                have F_kept_reg := G2
                have N_16 := Fr.app N_15 N_16q
                refine hst (fun _ kt => st_16.trans kt) ?_
                show G (T_16.setTop (mkF mI 362 #[.val (.int sh), .val (.long xa), .second, .val (.long xb), .second, .val (.long xc), .second, .val (.int xq), .val (.long xr), .second, .val (.int pA), .val (.int pB), .val (.int pC), .val (.long xa), .second, .val (.long gA), .second, .val (.long lB), .second, .val (.long gB), .second, .val (.long lC), .second, .val (.long gC), .second, .val (.int q), .val (.int pk), .val (.long dl), .second, .val (.long r), .second, .val (.ref no), .val (.ref reg), .val (.ref ts), .val (.ref tA), .val (.ref tB), .unset, .unset] [(.ref tC)]))
                refine o_astore hst X_16.here hx (hb hby at_362) (pc' := 364) rfl (Lt := #[.val (.int sh), .val (.long xa), .second, .val (.long xb), .second, .val (.long xc), .second, .val (.int xq), .val (.long xr), .second, .val (.int pA), .val (.int pB), .val (.int pC), .val (.long xa), .second, .val (.long gA), .second, .val (.long lB), .second, .val (.long gB), .second, .val (.long lC), .second, .val (.long gC), .second, .val (.int q), .val (.int pk), .val (.long dl), .second, .val (.long r), .second, .val (.ref no), .val (.ref reg), .val (.ref ts), .val (.ref tA), .val (.ref tB), .val (.ref tC), .unset]) rfl rfl ?_
                refine o_aconstNull hst X_16.here hx (hb hby at_364) (pc' := 365) rfl ?_
                refine o_astore hst X_16.here hx (hb hby at_365) (pc' := 367) rfl (Lt := #[.val (.int sh), .val (.long xa), .second, .val (.long xb), .second, .val (.long xc), .second, .val (.int xq), .val (.long xr), .second, .val (.int pA), .val (.int pB), .val (.int pC), .val (.long xa), .second, .val (.long gA), .second, .val (.long lB), .second, .val (.long gB), .second, .val (.long lC), .second, .val (.long gC), .second, .val (.int q), .val (.int pk), .val (.long dl), .second, .val (.long r), .second, .val (.ref no), .val (.ref reg), .val (.ref ts), .val (.ref tA), .val (.ref tB), .val (.ref tC), .val .null]) rfl rfl ?_
                refine o_iload hst X_16.here hx (hb hby at_367) (pc' := 369) rfl rfl ?_
                refine o_lload hst X_16.here hx (hb hby at_369) (pc' := 371) rfl rfl ?_
                refine o_lload hst X_16.here hx (hb hby at_371) (pc' := 373) rfl rfl ?_
                refine o_iload hst X_16.here hx (hb hby at_373) (pc' := 375) rfl rfl ?_
                refine o_lload hst X_16.here hx (hb hby at_375) (pc' := 377) rfl rfl ?_
                have hfin := own_final (q := q) (r := r) S3 m3 m2 m1 hAB hAC hBC hgA hgB hgC
                obtain ⟨_, _, ⟨T_17, L_17, k_17, n_17⟩, -, X_17, ⟨Lc_17, hQ_17, l_17, y_17, z_17⟩, st_17⟩ := Jvm.LawKit.callS X_16 hx (y := (⟨x.cls, "holds", "(IJJIJ)Z"⟩ : MethodName)) hown (mvT hZ (own_w177 hw)) (mvT hZ (own_w178 hw)) (mvT hZ (own_w2 hw)) (mvT hZ (own_w179 hw)) (by decide) (backOf (W := 0) (rmho lL Z a0 hw [] pA xa gA q r  T_16.heap n0 Z0) hZ (own_w179 hw) (own_w2 hw) (by decide) (by decide)) (g := (mkF mI 377 #[.val (.int sh), .val (.long xa), .second, .val (.long xb), .second, .val (.long xc), .second, .val (.int xq), .val (.long xr), .second, .val (.int pA), .val (.int pB), .val (.int pC), .val (.long xa), .second, .val (.long gA), .second, .val (.long lB), .second, .val (.long gB), .second, .val (.long lC), .second, .val (.long gC), .second, .val (.int q), .val (.int pk), .val (.long dl), .second, .val (.long r), .second, .val (.ref no), .val (.ref reg), .val (.ref ts), .val (.ref tA), .val (.ref tB), .val (.ref tC), .val .null] [(.long r), (.int q), (.long gA), (.long xa), (.int pA)])) rfl (by rw [hml]; rfl) (argsL := [(.int pA), (.long xa), (.long gA), (.int q), (.long r)]) (rest := []) (lenOf pd_16 rfl) rfl (by show 2 * 0 + _ ≤ _; exact Nat.le_of_eq rfl) (hb hby at_377) (fun _ _ => ⟨rfl, rfl, (by decide : 14 + 0 ≤ _), (by decide : 118 + 0 ≤ _)⟩)
                dsimp only [Pt.U, Pt.locs, Pt.cells, Pt.slots] at X_17 l_17 y_17 z_17 st_17 hQ_17
                subst l_17 y_17 z_17
                obtain ⟨rfl, N_17q, eh_17⟩ := hQ_17
                have N_17 := Fr.app N_16 N_17q
                refine hst (fun _ kt => st_17 _ kt) ?_
                show G (T_17.setTop (mkF mI 380 #[.val (.int sh), .val (.long xa), .second, .val (.long xb), .second, .val (.long xc), .second, .val (.int xq), .val (.long xr), .second, .val (.int pA), .val (.int pB), .val (.int pC), .val (.long xa), .second, .val (.long gA), .second, .val (.long lB), .second, .val (.long gB), .second, .val (.long lC), .second, .val (.long gC), .second, .val (.int q), .val (.int pk), .val (.long dl), .second, .val (.long r), .second, .val (.ref no), .val (.ref reg), .val (.ref ts), .val (.ref tA), .val (.ref tB), .val (.ref tC), .val .null] [(.int (own_ho pA xa gA q r))]))
                by_cases hoA : (own_ho pA xa gA q r) = (0 : Int32)
                ·
                  refine hst (fun _ kt => XS.ifYes X_17.here hx rfl (pc0 := 380) (pc' := 387) rfl (hb hby at_380) rfl ((if0 _ _).trans (teq hoA).1) (by decide) (by decide) kt) ?_
                  show G (T_17.setTop (mkF mI 387 #[.val (.int sh), .val (.long xa), .second, .val (.long xb), .second, .val (.long xc), .second, .val (.int xq), .val (.long xr), .second, .val (.int pA), .val (.int pB), .val (.int pC), .val (.long xa), .second, .val (.long gA), .second, .val (.long lB), .second, .val (.long gB), .second, .val (.long lC), .second, .val (.long gC), .second, .val (.int q), .val (.int pk), .val (.long dl), .second, .val (.long r), .second, .val (.ref no), .val (.ref reg), .val (.ref ts), .val (.ref tA), .val (.ref tB), .val (.ref tC), .val .null] []))
                  refine o_iload hst X_17.here hx (hb hby at_387) (pc' := 389) rfl rfl ?_
                  refine o_lload hst X_17.here hx (hb hby at_389) (pc' := 391) rfl rfl ?_
                  refine o_lload hst X_17.here hx (hb hby at_391) (pc' := 393) rfl rfl ?_
                  refine o_iload hst X_17.here hx (hb hby at_393) (pc' := 395) rfl rfl ?_
                  refine o_lload hst X_17.here hx (hb hby at_395) (pc' := 397) rfl rfl ?_
                  obtain ⟨_, _, ⟨T_18, L_18, k_18, n_18⟩, -, X_18, ⟨Lc_18, hQ_18, l_18, y_18, z_18⟩, st_18⟩ := Jvm.LawKit.callS X_17 hx (y := (⟨x.cls, "holds", "(IJJIJ)Z"⟩ : MethodName)) hown (mvT hZ (own_w177 hw)) (mvT hZ (own_w178 hw)) (mvT hZ (own_w2 hw)) (mvT hZ (own_w179 hw)) (by decide) (backOf (W := 0) (rmho lL Z a0 hw [] pB lB gB q r  T_16.heap n0 Z0) hZ (own_w179 hw) (own_w2 hw) (by decide) (by decide)) (g := (mkF mI 397 #[.val (.int sh), .val (.long xa), .second, .val (.long xb), .second, .val (.long xc), .second, .val (.int xq), .val (.long xr), .second, .val (.int pA), .val (.int pB), .val (.int pC), .val (.long xa), .second, .val (.long gA), .second, .val (.long lB), .second, .val (.long gB), .second, .val (.long lC), .second, .val (.long gC), .second, .val (.int q), .val (.int pk), .val (.long dl), .second, .val (.long r), .second, .val (.ref no), .val (.ref reg), .val (.ref ts), .val (.ref tA), .val (.ref tB), .val (.ref tC), .val .null] [(.long r), (.int q), (.long gB), (.long lB), (.int pB)])) rfl (by rw [hml]; rfl) (argsL := [(.int pB), (.long lB), (.long gB), (.int q), (.long r)]) (rest := []) (lenOf pd_16 rfl) rfl (by show 2 * 0 + _ ≤ _; exact Nat.le_of_eq rfl) (hb hby at_397) (fun _ _ => ⟨rfl, eh_17, (by decide : 14 + 0 ≤ _), (by decide : 118 + 0 ≤ _)⟩)
                  dsimp only [Pt.U, Pt.locs, Pt.cells, Pt.slots] at X_18 l_18 y_18 z_18 st_18 hQ_18
                  subst l_18 y_18 z_18
                  obtain ⟨rfl, N_18q, eh_18⟩ := hQ_18
                  have N_18 := Fr.app N_17 N_18q
                  refine hst (fun _ kt => st_18 _ kt) ?_
                  show G (T_18.setTop (mkF mI 400 #[.val (.int sh), .val (.long xa), .second, .val (.long xb), .second, .val (.long xc), .second, .val (.int xq), .val (.long xr), .second, .val (.int pA), .val (.int pB), .val (.int pC), .val (.long xa), .second, .val (.long gA), .second, .val (.long lB), .second, .val (.long gB), .second, .val (.long lC), .second, .val (.long gC), .second, .val (.int q), .val (.int pk), .val (.long dl), .second, .val (.long r), .second, .val (.ref no), .val (.ref reg), .val (.ref ts), .val (.ref tA), .val (.ref tB), .val (.ref tC), .val .null] [(.int (own_ho pB lB gB q r))]))
                  by_cases hoB : (own_ho pB lB gB q r) = (0 : Int32)
                  ·
                    refine hst (fun _ kt => XS.ifYes X_18.here hx rfl (pc0 := 400) (pc' := 407) rfl (hb hby at_400) rfl ((if0 _ _).trans (teq hoB).1) (by decide) (by decide) kt) ?_
                    show G (T_18.setTop (mkF mI 407 #[.val (.int sh), .val (.long xa), .second, .val (.long xb), .second, .val (.long xc), .second, .val (.int xq), .val (.long xr), .second, .val (.int pA), .val (.int pB), .val (.int pC), .val (.long xa), .second, .val (.long gA), .second, .val (.long lB), .second, .val (.long gB), .second, .val (.long lC), .second, .val (.long gC), .second, .val (.int q), .val (.int pk), .val (.long dl), .second, .val (.long r), .second, .val (.ref no), .val (.ref reg), .val (.ref ts), .val (.ref tA), .val (.ref tB), .val (.ref tC), .val .null] []))
                    refine o_iload hst X_18.here hx (hb hby at_407) (pc' := 409) rfl rfl ?_
                    refine o_lload hst X_18.here hx (hb hby at_409) (pc' := 411) rfl rfl ?_
                    refine o_lload hst X_18.here hx (hb hby at_411) (pc' := 413) rfl rfl ?_
                    refine o_iload hst X_18.here hx (hb hby at_413) (pc' := 415) rfl rfl ?_
                    refine o_lload hst X_18.here hx (hb hby at_415) (pc' := 417) rfl rfl ?_
                    obtain ⟨_, _, ⟨T_19, L_19, k_19, n_19⟩, -, X_19, ⟨Lc_19, hQ_19, l_19, y_19, z_19⟩, st_19⟩ := Jvm.LawKit.callS X_18 hx (y := (⟨x.cls, "holds", "(IJJIJ)Z"⟩ : MethodName)) hown (mvT hZ (own_w177 hw)) (mvT hZ (own_w178 hw)) (mvT hZ (own_w2 hw)) (mvT hZ (own_w179 hw)) (by decide) (backOf (W := 0) (rmho lL Z a0 hw [] pC lC gC q r  T_16.heap n0 Z0) hZ (own_w179 hw) (own_w2 hw) (by decide) (by decide)) (g := (mkF mI 417 #[.val (.int sh), .val (.long xa), .second, .val (.long xb), .second, .val (.long xc), .second, .val (.int xq), .val (.long xr), .second, .val (.int pA), .val (.int pB), .val (.int pC), .val (.long xa), .second, .val (.long gA), .second, .val (.long lB), .second, .val (.long gB), .second, .val (.long lC), .second, .val (.long gC), .second, .val (.int q), .val (.int pk), .val (.long dl), .second, .val (.long r), .second, .val (.ref no), .val (.ref reg), .val (.ref ts), .val (.ref tA), .val (.ref tB), .val (.ref tC), .val .null] [(.long r), (.int q), (.long gC), (.long lC), (.int pC)])) rfl (by rw [hml]; rfl) (argsL := [(.int pC), (.long lC), (.long gC), (.int q), (.long r)]) (rest := []) (lenOf pd_16 rfl) rfl (by show 2 * 0 + _ ≤ _; exact Nat.le_of_eq rfl) (hb hby at_417) (fun _ _ => ⟨rfl, eh_18, (by decide : 14 + 0 ≤ _), (by decide : 118 + 0 ≤ _)⟩)
                    dsimp only [Pt.U, Pt.locs, Pt.cells, Pt.slots] at X_19 l_19 y_19 z_19 st_19 hQ_19
                    subst l_19 y_19 z_19
                    obtain ⟨rfl, N_19q, eh_19⟩ := hQ_19
                    have N_19 := Fr.app N_18 N_19q
                    refine hst (fun _ kt => st_19 _ kt) ?_
                    show G (T_19.setTop (mkF mI 420 #[.val (.int sh), .val (.long xa), .second, .val (.long xb), .second, .val (.long xc), .second, .val (.int xq), .val (.long xr), .second, .val (.int pA), .val (.int pB), .val (.int pC), .val (.long xa), .second, .val (.long gA), .second, .val (.long lB), .second, .val (.long gB), .second, .val (.long lC), .second, .val (.long gC), .second, .val (.int q), .val (.int pk), .val (.long dl), .second, .val (.long r), .second, .val (.ref no), .val (.ref reg), .val (.ref ts), .val (.ref tA), .val (.ref tB), .val (.ref tC), .val .null] [(.int (own_ho pC lC gC q r))]))
                    by_cases hoC : (own_ho pC lC gC q r) = (0 : Int32)
                    ·
                      refine hst (fun _ kt => XS.ifYes X_19.here hx rfl (pc0 := 420) (pc' := 427) rfl (hb hby at_420) rfl ((if0 _ _).trans (teq hoC).1) (by decide) (by decide) kt) ?_
                      show G (T_19.setTop (mkF mI 427 #[.val (.int sh), .val (.long xa), .second, .val (.long xb), .second, .val (.long xc), .second, .val (.int xq), .val (.long xr), .second, .val (.int pA), .val (.int pB), .val (.int pC), .val (.long xa), .second, .val (.long gA), .second, .val (.long lB), .second, .val (.long gB), .second, .val (.long lC), .second, .val (.long gC), .second, .val (.int q), .val (.int pk), .val (.long dl), .second, .val (.long r), .second, .val (.ref no), .val (.ref reg), .val (.ref ts), .val (.ref tA), .val (.ref tB), .val (.ref tC), .val .null] []))
                      refine o_aload hst X_19.here hx (hb hby at_427) (pc' := 429) rfl rfl rfl ?_
                      refine o_iload hst X_19.here hx (hb hby at_429) (pc' := 431) rfl rfl ?_
                      refine o_lload hst X_19.here hx (hb hby at_431) (pc' := 433) rfl rfl ?_
                      obtain ⟨cq_20, kq_20, q_20a, q_20b, q_20c⟩ := isOf hZ eh_19 E_reg
                      obtain ⟨_, _, ⟨T_20, L_20, k_20, n_20⟩, -, X_20, ⟨Lc_20, hQ_20, l_20, y_20, z_20⟩, st_20⟩ := X_19.virtualBack hx (y := (⟨own_SS, "find", "(IJ)Lcom/example/tierfold/tierfold/tiered/SharedTail;"⟩ : MethodName)) (z := (⟨own_SS, "find", "(IJ)Lcom/example/tierfold/tierfold/tiered/SharedTail;"⟩ : MethodName)) hown (mvT hZ (own_w180 hw)) (mvT hZ (own_w181 hw)) (notFace_of_selects (args := #[]) (mvT hZ (own_w183 hw))) (mvT hZ (own_w183 hw)) (mvT hZ (own_w182 hw)) (by decide) (backOf (W := 0) (rmfd lL Z a0 hw [] reg q r (.ref rb2) Lq3 T_16.heap n0 Z0 F_kept_reg C_3 S3) hZ (own_w184 hw) (own_w15 hw) (by decide) (by decide)) q_20a q_20c (g := (mkF mI 433 #[.val (.int sh), .val (.long xa), .second, .val (.long xb), .second, .val (.long xc), .second, .val (.int xq), .val (.long xr), .second, .val (.int pA), .val (.int pB), .val (.int pC), .val (.long xa), .second, .val (.long gA), .second, .val (.long lB), .second, .val (.long gB), .second, .val (.long lC), .second, .val (.long gC), .second, .val (.int q), .val (.int pk), .val (.long dl), .second, .val (.long r), .second, .val (.ref no), .val (.ref reg), .val (.ref ts), .val (.ref tA), .val (.ref tB), .val (.ref tC), .val .null] [(.long r), (.int q), (.ref reg)])) rfl (by rw [hml]; rfl) (Steps.refl _) (argsL := [(.int q), (.long r)]) (rest := []) (lenOf pd_17 rfl) rfl (by show 2 * 0 + _ ≤ _; exact Nat.le_of_eq rfl) (hb hby at_433) (fun _ _ => ⟨rfl, eh_19, (by decide : 14 + 0 ≤ _), (by decide : 118 + 0 ≤ _)⟩)
                      dsimp only [Pt.U, Pt.locs, Pt.cells, Pt.slots] at X_20 l_20 y_20 z_20 st_20 hQ_20
                      subst l_20 y_20 z_20
                      obtain ⟨rfl, N_20q, eh_20⟩ := hQ_20
                      have N_20 := Fr.app N_19 N_20q
                      refine hst (fun _ kt => st_20.trans kt) ?_
                      show G (T_20.setTop (mkF mI 436 #[.val (.int sh), .val (.long xa), .second, .val (.long xb), .second, .val (.long xc), .second, .val (.int xq), .val (.long xr), .second, .val (.int pA), .val (.int pB), .val (.int pC), .val (.long xa), .second, .val (.long gA), .second, .val (.long lB), .second, .val (.long gB), .second, .val (.long lC), .second, .val (.long gC), .second, .val (.int q), .val (.int pk), .val (.long dl), .second, .val (.long r), .second, .val (.ref no), .val (.ref reg), .val (.ref ts), .val (.ref tA), .val (.ref tB), .val (.ref tC), .val .null] [(own_fd q r (own_best q r none Lq3))]))
                      refine o_aload hst X_20.here hx (hb hby at_436) (pc' := 438) rfl rfl rfl ?_
                      have hres : own_fd q r (own_best q r none Lq3) = .null := hfin.trans (by rw [own_exp, if_pos hoC, if_pos hoB, if_pos hoA])
                      refine hst (fun _ kt => Jvm.RoadKit.acmp (g := (mkF mI 438 #[.val (.int sh), .val (.long xa), .second, .val (.long xb), .second, .val (.long xc), .second, .val (.int xq), .val (.long xr), .second, .val (.int pA), .val (.int pB), .val (.int pC), .val (.long xa), .second, .val (.long gA), .second, .val (.long lB), .second, .val (.long gB), .second, .val (.long lC), .second, .val (.long gC), .second, .val (.int q), .val (.int pk), .val (.long dl), .second, .val (.long r), .second, .val (.ref no), .val (.ref reg), .val (.ref ts), .val (.ref tA), .val (.ref tB), .val (.ref tC), .val .null] [.null, (own_fd q r (own_best q r none Lq3))])) X_20 hx rfl (own_fd_ref _ _ _) rfl (pc0 := 438) (pc' := 441) (same := true) rfl (hb hby at_438) rfl (decide_eq_true hres) (by decide) (by decide) kt) ?_
                      show G (T_20.setTop (mkF mI 441 #[.val (.int sh), .val (.long xa), .second, .val (.long xb), .second, .val (.long xc), .second, .val (.int xq), .val (.long xr), .second, .val (.int pA), .val (.int pB), .val (.int pC), .val (.long xa), .second, .val (.long gA), .second, .val (.long lB), .second, .val (.long gB), .second, .val (.long lC), .second, .val (.long gC), .second, .val (.int q), .val (.int pk), .val (.long dl), .second, .val (.long r), .second, .val (.ref no), .val (.ref reg), .val (.ref ts), .val (.ref tA), .val (.ref tB), .val (.ref tC), .val .null] []))
                      refine o_iconst hst X_20.here hx (hb hby at_441) (pc' := 442) rfl (z := (1 : Int32)) rfl ?_
                      refine o_goto hst X_20.here hx (hb hby at_442) (by decide) (pc' := 446) (by decide) ?_
                      exact hend (own_goRet X_20 hx Bd.returns rfl (Or.inl ⟨rfl, by simp, _, rfl⟩) (hb hby at_446) Bd.notSynchronized (by rw [eh_20]; exact ⟨rfl, N_20⟩) (by decide) (by decide))
                    ·
                      refine hst (fun _ kt => XS.ifNo X_19.here hx rfl (hb hby at_420) rfl ((if0 _ _).trans (feq hoC).1) kt) ?_
                      show G (T_19.setTop (mkF mI 423 #[.val (.int sh), .val (.long xa), .second, .val (.long xb), .second, .val (.long xc), .second, .val (.int xq), .val (.long xr), .second, .val (.int pA), .val (.int pB), .val (.int pC), .val (.long xa), .second, .val (.long gA), .second, .val (.long lB), .second, .val (.long gB), .second, .val (.long lC), .second, .val (.long gC), .second, .val (.int q), .val (.int pk), .val (.long dl), .second, .val (.long r), .second, .val (.ref no), .val (.ref reg), .val (.ref ts), .val (.ref tA), .val (.ref tB), .val (.ref tC), .val .null] []))
                      refine o_aload hst X_19.here hx (hb hby at_423) (pc' := 425) rfl rfl rfl ?_
                      refine o_astore hst X_19.here hx (hb hby at_425) (pc' := 427) rfl (Lt := #[.val (.int sh), .val (.long xa), .second, .val (.long xb), .second, .val (.long xc), .second, .val (.int xq), .val (.long xr), .second, .val (.int pA), .val (.int pB), .val (.int pC), .val (.long xa), .second, .val (.long gA), .second, .val (.long lB), .second, .val (.long gB), .second, .val (.long lC), .second, .val (.long gC), .second, .val (.int q), .val (.int pk), .val (.long dl), .second, .val (.long r), .second, .val (.ref no), .val (.ref reg), .val (.ref ts), .val (.ref tA), .val (.ref tB), .val (.ref tC), .val (.ref tC)]) rfl rfl ?_
                      refine o_aload hst X_19.here hx (hb hby at_427) (pc' := 429) rfl rfl rfl ?_
                      refine o_iload hst X_19.here hx (hb hby at_429) (pc' := 431) rfl rfl ?_
                      refine o_lload hst X_19.here hx (hb hby at_431) (pc' := 433) rfl rfl ?_
                      obtain ⟨cq_21, kq_21, q_21a, q_21b, q_21c⟩ := isOf hZ eh_19 E_reg
                      obtain ⟨_, _, ⟨T_21, L_21, k_21, n_21⟩, -, X_21, ⟨Lc_21, hQ_21, l_21, y_21, z_21⟩, st_21⟩ := X_19.virtualBack hx (y := (⟨own_SS, "find", "(IJ)Lcom/example/tierfold/tierfold/tiered/SharedTail;"⟩ : MethodName)) (z := (⟨own_SS, "find", "(IJ)Lcom/example/tierfold/tierfold/tiered/SharedTail;"⟩ : MethodName)) hown (mvT hZ (own_w180 hw)) (mvT hZ (own_w181 hw)) (notFace_of_selects (args := #[]) (mvT hZ (own_w183 hw))) (mvT hZ (own_w183 hw)) (mvT hZ (own_w182 hw)) (by decide) (backOf (W := 0) (rmfd lL Z a0 hw [] reg q r (.ref rb2) Lq3 T_16.heap n0 Z0 F_kept_reg C_3 S3) hZ (own_w184 hw) (own_w15 hw) (by decide) (by decide)) q_21a q_21c (g := (mkF mI 433 #[.val (.int sh), .val (.long xa), .second, .val (.long xb), .second, .val (.long xc), .second, .val (.int xq), .val (.long xr), .second, .val (.int pA), .val (.int pB), .val (.int pC), .val (.long xa), .second, .val (.long gA), .second, .val (.long lB), .second, .val (.long gB), .second, .val (.long lC), .second, .val (.long gC), .second, .val (.int q), .val (.int pk), .val (.long dl), .second, .val (.long r), .second, .val (.ref no), .val (.ref reg), .val (.ref ts), .val (.ref tA), .val (.ref tB), .val (.ref tC), .val (.ref tC)] [(.long r), (.int q), (.ref reg)])) rfl (by rw [hml]; rfl) (Steps.refl _) (argsL := [(.int q), (.long r)]) (rest := []) (lenOf pd_17 rfl) rfl (by show 2 * 0 + _ ≤ _; exact Nat.le_of_eq rfl) (hb hby at_433) (fun _ _ => ⟨rfl, eh_19, (by decide : 14 + 0 ≤ _), (by decide : 118 + 0 ≤ _)⟩)
                      dsimp only [Pt.U, Pt.locs, Pt.cells, Pt.slots] at X_21 l_21 y_21 z_21 st_21 hQ_21
                      subst l_21 y_21 z_21
                      obtain ⟨rfl, N_21q, eh_21⟩ := hQ_21
                      have N_21 := Fr.app N_19 N_21q
                      refine hst (fun _ kt => st_21.trans kt) ?_
                      show G (T_21.setTop (mkF mI 436 #[.val (.int sh), .val (.long xa), .second, .val (.long xb), .second, .val (.long xc), .second, .val (.int xq), .val (.long xr), .second, .val (.int pA), .val (.int pB), .val (.int pC), .val (.long xa), .second, .val (.long gA), .second, .val (.long lB), .second, .val (.long gB), .second, .val (.long lC), .second, .val (.long gC), .second, .val (.int q), .val (.int pk), .val (.long dl), .second, .val (.long r), .second, .val (.ref no), .val (.ref reg), .val (.ref ts), .val (.ref tA), .val (.ref tB), .val (.ref tC), .val (.ref tC)] [(own_fd q r (own_best q r none Lq3))]))
                      refine o_aload hst X_21.here hx (hb hby at_436) (pc' := 438) rfl rfl rfl ?_
                      have hres : own_fd q r (own_best q r none Lq3) = (.ref tC) := hfin.trans (by rw [own_exp, if_neg hoC])
                      refine hst (fun _ kt => Jvm.RoadKit.acmp (g := (mkF mI 438 #[.val (.int sh), .val (.long xa), .second, .val (.long xb), .second, .val (.long xc), .second, .val (.int xq), .val (.long xr), .second, .val (.int pA), .val (.int pB), .val (.int pC), .val (.long xa), .second, .val (.long gA), .second, .val (.long lB), .second, .val (.long gB), .second, .val (.long lC), .second, .val (.long gC), .second, .val (.int q), .val (.int pk), .val (.long dl), .second, .val (.long r), .second, .val (.ref no), .val (.ref reg), .val (.ref ts), .val (.ref tA), .val (.ref tB), .val (.ref tC), .val (.ref tC)] [(.ref tC), (own_fd q r (own_best q r none Lq3))])) X_21 hx rfl (own_fd_ref _ _ _) rfl (pc0 := 438) (pc' := 441) (same := true) rfl (hb hby at_438) rfl (decide_eq_true hres) (by decide) (by decide) kt) ?_
                      show G (T_21.setTop (mkF mI 441 #[.val (.int sh), .val (.long xa), .second, .val (.long xb), .second, .val (.long xc), .second, .val (.int xq), .val (.long xr), .second, .val (.int pA), .val (.int pB), .val (.int pC), .val (.long xa), .second, .val (.long gA), .second, .val (.long lB), .second, .val (.long gB), .second, .val (.long lC), .second, .val (.long gC), .second, .val (.int q), .val (.int pk), .val (.long dl), .second, .val (.long r), .second, .val (.ref no), .val (.ref reg), .val (.ref ts), .val (.ref tA), .val (.ref tB), .val (.ref tC), .val (.ref tC)] []))
                      refine o_iconst hst X_21.here hx (hb hby at_441) (pc' := 442) rfl (z := (1 : Int32)) rfl ?_
                      refine o_goto hst X_21.here hx (hb hby at_442) (by decide) (pc' := 446) (by decide) ?_
                      exact hend (own_goRet X_21 hx Bd.returns rfl (Or.inl ⟨rfl, by simp, _, rfl⟩) (hb hby at_446) Bd.notSynchronized (by rw [eh_21]; exact ⟨rfl, N_21⟩) (by decide) (by decide))
                  ·
                    refine hst (fun _ kt => XS.ifNo X_18.here hx rfl (hb hby at_400) rfl ((if0 _ _).trans (feq hoB).1) kt) ?_
                    show G (T_18.setTop (mkF mI 403 #[.val (.int sh), .val (.long xa), .second, .val (.long xb), .second, .val (.long xc), .second, .val (.int xq), .val (.long xr), .second, .val (.int pA), .val (.int pB), .val (.int pC), .val (.long xa), .second, .val (.long gA), .second, .val (.long lB), .second, .val (.long gB), .second, .val (.long lC), .second, .val (.long gC), .second, .val (.int q), .val (.int pk), .val (.long dl), .second, .val (.long r), .second, .val (.ref no), .val (.ref reg), .val (.ref ts), .val (.ref tA), .val (.ref tB), .val (.ref tC), .val .null] []))
                    refine o_aload hst X_18.here hx (hb hby at_403) (pc' := 405) rfl rfl rfl ?_
                    refine o_astore hst X_18.here hx (hb hby at_405) (pc' := 407) rfl (Lt := #[.val (.int sh), .val (.long xa), .second, .val (.long xb), .second, .val (.long xc), .second, .val (.int xq), .val (.long xr), .second, .val (.int pA), .val (.int pB), .val (.int pC), .val (.long xa), .second, .val (.long gA), .second, .val (.long lB), .second, .val (.long gB), .second, .val (.long lC), .second, .val (.long gC), .second, .val (.int q), .val (.int pk), .val (.long dl), .second, .val (.long r), .second, .val (.ref no), .val (.ref reg), .val (.ref ts), .val (.ref tA), .val (.ref tB), .val (.ref tC), .val (.ref tB)]) rfl rfl ?_
                    refine o_iload hst X_18.here hx (hb hby at_407) (pc' := 409) rfl rfl ?_
                    refine o_lload hst X_18.here hx (hb hby at_409) (pc' := 411) rfl rfl ?_
                    refine o_lload hst X_18.here hx (hb hby at_411) (pc' := 413) rfl rfl ?_
                    refine o_iload hst X_18.here hx (hb hby at_413) (pc' := 415) rfl rfl ?_
                    refine o_lload hst X_18.here hx (hb hby at_415) (pc' := 417) rfl rfl ?_
                    obtain ⟨_, _, ⟨T_22, L_22, k_22, n_22⟩, -, X_22, ⟨Lc_22, hQ_22, l_22, y_22, z_22⟩, st_22⟩ := Jvm.LawKit.callS X_18 hx (y := (⟨x.cls, "holds", "(IJJIJ)Z"⟩ : MethodName)) hown (mvT hZ (own_w177 hw)) (mvT hZ (own_w178 hw)) (mvT hZ (own_w2 hw)) (mvT hZ (own_w179 hw)) (by decide) (backOf (W := 0) (rmho lL Z a0 hw [] pC lC gC q r  T_16.heap n0 Z0) hZ (own_w179 hw) (own_w2 hw) (by decide) (by decide)) (g := (mkF mI 417 #[.val (.int sh), .val (.long xa), .second, .val (.long xb), .second, .val (.long xc), .second, .val (.int xq), .val (.long xr), .second, .val (.int pA), .val (.int pB), .val (.int pC), .val (.long xa), .second, .val (.long gA), .second, .val (.long lB), .second, .val (.long gB), .second, .val (.long lC), .second, .val (.long gC), .second, .val (.int q), .val (.int pk), .val (.long dl), .second, .val (.long r), .second, .val (.ref no), .val (.ref reg), .val (.ref ts), .val (.ref tA), .val (.ref tB), .val (.ref tC), .val (.ref tB)] [(.long r), (.int q), (.long gC), (.long lC), (.int pC)])) rfl (by rw [hml]; rfl) (argsL := [(.int pC), (.long lC), (.long gC), (.int q), (.long r)]) (rest := []) (lenOf pd_16 rfl) rfl (by show 2 * 0 + _ ≤ _; exact Nat.le_of_eq rfl) (hb hby at_417) (fun _ _ => ⟨rfl, eh_18, (by decide : 14 + 0 ≤ _), (by decide : 118 + 0 ≤ _)⟩)
                    dsimp only [Pt.U, Pt.locs, Pt.cells, Pt.slots] at X_22 l_22 y_22 z_22 st_22 hQ_22
                    subst l_22 y_22 z_22
                    obtain ⟨rfl, N_22q, eh_22⟩ := hQ_22
                    have N_22 := Fr.app N_18 N_22q
                    refine hst (fun _ kt => st_22 _ kt) ?_
                    show G (T_22.setTop (mkF mI 420 #[.val (.int sh), .val (.long xa), .second, .val (.long xb), .second, .val (.long xc), .second, .val (.int xq), .val (.long xr), .second, .val (.int pA), .val (.int pB), .val (.int pC), .val (.long xa), .second, .val (.long gA), .second, .val (.long lB), .second, .val (.long gB), .second, .val (.long lC), .second, .val (.long gC), .second, .val (.int q), .val (.int pk), .val (.long dl), .second, .val (.long r), .second, .val (.ref no), .val (.ref reg), .val (.ref ts), .val (.ref tA), .val (.ref tB), .val (.ref tC), .val (.ref tB)] [(.int (own_ho pC lC gC q r))]))
                    by_cases hoC : (own_ho pC lC gC q r) = (0 : Int32)
                    ·
                      refine hst (fun _ kt => XS.ifYes X_22.here hx rfl (pc0 := 420) (pc' := 427) rfl (hb hby at_420) rfl ((if0 _ _).trans (teq hoC).1) (by decide) (by decide) kt) ?_
                      show G (T_22.setTop (mkF mI 427 #[.val (.int sh), .val (.long xa), .second, .val (.long xb), .second, .val (.long xc), .second, .val (.int xq), .val (.long xr), .second, .val (.int pA), .val (.int pB), .val (.int pC), .val (.long xa), .second, .val (.long gA), .second, .val (.long lB), .second, .val (.long gB), .second, .val (.long lC), .second, .val (.long gC), .second, .val (.int q), .val (.int pk), .val (.long dl), .second, .val (.long r), .second, .val (.ref no), .val (.ref reg), .val (.ref ts), .val (.ref tA), .val (.ref tB), .val (.ref tC), .val (.ref tB)] []))
                      refine o_aload hst X_22.here hx (hb hby at_427) (pc' := 429) rfl rfl rfl ?_
                      refine o_iload hst X_22.here hx (hb hby at_429) (pc' := 431) rfl rfl ?_
                      refine o_lload hst X_22.here hx (hb hby at_431) (pc' := 433) rfl rfl ?_
                      obtain ⟨cq_23, kq_23, q_23a, q_23b, q_23c⟩ := isOf hZ eh_22 E_reg
                      obtain ⟨_, _, ⟨T_23, L_23, k_23, n_23⟩, -, X_23, ⟨Lc_23, hQ_23, l_23, y_23, z_23⟩, st_23⟩ := X_22.virtualBack hx (y := (⟨own_SS, "find", "(IJ)Lcom/example/tierfold/tierfold/tiered/SharedTail;"⟩ : MethodName)) (z := (⟨own_SS, "find", "(IJ)Lcom/example/tierfold/tierfold/tiered/SharedTail;"⟩ : MethodName)) hown (mvT hZ (own_w180 hw)) (mvT hZ (own_w181 hw)) (notFace_of_selects (args := #[]) (mvT hZ (own_w183 hw))) (mvT hZ (own_w183 hw)) (mvT hZ (own_w182 hw)) (by decide) (backOf (W := 0) (rmfd lL Z a0 hw [] reg q r (.ref rb2) Lq3 T_16.heap n0 Z0 F_kept_reg C_3 S3) hZ (own_w184 hw) (own_w15 hw) (by decide) (by decide)) q_23a q_23c (g := (mkF mI 433 #[.val (.int sh), .val (.long xa), .second, .val (.long xb), .second, .val (.long xc), .second, .val (.int xq), .val (.long xr), .second, .val (.int pA), .val (.int pB), .val (.int pC), .val (.long xa), .second, .val (.long gA), .second, .val (.long lB), .second, .val (.long gB), .second, .val (.long lC), .second, .val (.long gC), .second, .val (.int q), .val (.int pk), .val (.long dl), .second, .val (.long r), .second, .val (.ref no), .val (.ref reg), .val (.ref ts), .val (.ref tA), .val (.ref tB), .val (.ref tC), .val (.ref tB)] [(.long r), (.int q), (.ref reg)])) rfl (by rw [hml]; rfl) (Steps.refl _) (argsL := [(.int q), (.long r)]) (rest := []) (lenOf pd_17 rfl) rfl (by show 2 * 0 + _ ≤ _; exact Nat.le_of_eq rfl) (hb hby at_433) (fun _ _ => ⟨rfl, eh_22, (by decide : 14 + 0 ≤ _), (by decide : 118 + 0 ≤ _)⟩)
                      dsimp only [Pt.U, Pt.locs, Pt.cells, Pt.slots] at X_23 l_23 y_23 z_23 st_23 hQ_23
                      subst l_23 y_23 z_23
                      obtain ⟨rfl, N_23q, eh_23⟩ := hQ_23
                      have N_23 := Fr.app N_22 N_23q
                      refine hst (fun _ kt => st_23.trans kt) ?_
                      show G (T_23.setTop (mkF mI 436 #[.val (.int sh), .val (.long xa), .second, .val (.long xb), .second, .val (.long xc), .second, .val (.int xq), .val (.long xr), .second, .val (.int pA), .val (.int pB), .val (.int pC), .val (.long xa), .second, .val (.long gA), .second, .val (.long lB), .second, .val (.long gB), .second, .val (.long lC), .second, .val (.long gC), .second, .val (.int q), .val (.int pk), .val (.long dl), .second, .val (.long r), .second, .val (.ref no), .val (.ref reg), .val (.ref ts), .val (.ref tA), .val (.ref tB), .val (.ref tC), .val (.ref tB)] [(own_fd q r (own_best q r none Lq3))]))
                      refine o_aload hst X_23.here hx (hb hby at_436) (pc' := 438) rfl rfl rfl ?_
                      have hres : own_fd q r (own_best q r none Lq3) = (.ref tB) := hfin.trans (by rw [own_exp, if_pos hoC, if_neg hoB])
                      refine hst (fun _ kt => Jvm.RoadKit.acmp (g := (mkF mI 438 #[.val (.int sh), .val (.long xa), .second, .val (.long xb), .second, .val (.long xc), .second, .val (.int xq), .val (.long xr), .second, .val (.int pA), .val (.int pB), .val (.int pC), .val (.long xa), .second, .val (.long gA), .second, .val (.long lB), .second, .val (.long gB), .second, .val (.long lC), .second, .val (.long gC), .second, .val (.int q), .val (.int pk), .val (.long dl), .second, .val (.long r), .second, .val (.ref no), .val (.ref reg), .val (.ref ts), .val (.ref tA), .val (.ref tB), .val (.ref tC), .val (.ref tB)] [(.ref tB), (own_fd q r (own_best q r none Lq3))])) X_23 hx rfl (own_fd_ref _ _ _) rfl (pc0 := 438) (pc' := 441) (same := true) rfl (hb hby at_438) rfl (decide_eq_true hres) (by decide) (by decide) kt) ?_
                      show G (T_23.setTop (mkF mI 441 #[.val (.int sh), .val (.long xa), .second, .val (.long xb), .second, .val (.long xc), .second, .val (.int xq), .val (.long xr), .second, .val (.int pA), .val (.int pB), .val (.int pC), .val (.long xa), .second, .val (.long gA), .second, .val (.long lB), .second, .val (.long gB), .second, .val (.long lC), .second, .val (.long gC), .second, .val (.int q), .val (.int pk), .val (.long dl), .second, .val (.long r), .second, .val (.ref no), .val (.ref reg), .val (.ref ts), .val (.ref tA), .val (.ref tB), .val (.ref tC), .val (.ref tB)] []))
                      refine o_iconst hst X_23.here hx (hb hby at_441) (pc' := 442) rfl (z := (1 : Int32)) rfl ?_
                      refine o_goto hst X_23.here hx (hb hby at_442) (by decide) (pc' := 446) (by decide) ?_
                      exact hend (own_goRet X_23 hx Bd.returns rfl (Or.inl ⟨rfl, by simp, _, rfl⟩) (hb hby at_446) Bd.notSynchronized (by rw [eh_23]; exact ⟨rfl, N_23⟩) (by decide) (by decide))
                    ·
                      refine hst (fun _ kt => XS.ifNo X_22.here hx rfl (hb hby at_420) rfl ((if0 _ _).trans (feq hoC).1) kt) ?_
                      show G (T_22.setTop (mkF mI 423 #[.val (.int sh), .val (.long xa), .second, .val (.long xb), .second, .val (.long xc), .second, .val (.int xq), .val (.long xr), .second, .val (.int pA), .val (.int pB), .val (.int pC), .val (.long xa), .second, .val (.long gA), .second, .val (.long lB), .second, .val (.long gB), .second, .val (.long lC), .second, .val (.long gC), .second, .val (.int q), .val (.int pk), .val (.long dl), .second, .val (.long r), .second, .val (.ref no), .val (.ref reg), .val (.ref ts), .val (.ref tA), .val (.ref tB), .val (.ref tC), .val (.ref tB)] []))
                      refine o_aload hst X_22.here hx (hb hby at_423) (pc' := 425) rfl rfl rfl ?_
                      refine o_astore hst X_22.here hx (hb hby at_425) (pc' := 427) rfl (Lt := #[.val (.int sh), .val (.long xa), .second, .val (.long xb), .second, .val (.long xc), .second, .val (.int xq), .val (.long xr), .second, .val (.int pA), .val (.int pB), .val (.int pC), .val (.long xa), .second, .val (.long gA), .second, .val (.long lB), .second, .val (.long gB), .second, .val (.long lC), .second, .val (.long gC), .second, .val (.int q), .val (.int pk), .val (.long dl), .second, .val (.long r), .second, .val (.ref no), .val (.ref reg), .val (.ref ts), .val (.ref tA), .val (.ref tB), .val (.ref tC), .val (.ref tC)]) rfl rfl ?_
                      refine o_aload hst X_22.here hx (hb hby at_427) (pc' := 429) rfl rfl rfl ?_
                      refine o_iload hst X_22.here hx (hb hby at_429) (pc' := 431) rfl rfl ?_
                      refine o_lload hst X_22.here hx (hb hby at_431) (pc' := 433) rfl rfl ?_
                      obtain ⟨cq_24, kq_24, q_24a, q_24b, q_24c⟩ := isOf hZ eh_22 E_reg
                      obtain ⟨_, _, ⟨T_24, L_24, k_24, n_24⟩, -, X_24, ⟨Lc_24, hQ_24, l_24, y_24, z_24⟩, st_24⟩ := X_22.virtualBack hx (y := (⟨own_SS, "find", "(IJ)Lcom/example/tierfold/tierfold/tiered/SharedTail;"⟩ : MethodName)) (z := (⟨own_SS, "find", "(IJ)Lcom/example/tierfold/tierfold/tiered/SharedTail;"⟩ : MethodName)) hown (mvT hZ (own_w180 hw)) (mvT hZ (own_w181 hw)) (notFace_of_selects (args := #[]) (mvT hZ (own_w183 hw))) (mvT hZ (own_w183 hw)) (mvT hZ (own_w182 hw)) (by decide) (backOf (W := 0) (rmfd lL Z a0 hw [] reg q r (.ref rb2) Lq3 T_16.heap n0 Z0 F_kept_reg C_3 S3) hZ (own_w184 hw) (own_w15 hw) (by decide) (by decide)) q_24a q_24c (g := (mkF mI 433 #[.val (.int sh), .val (.long xa), .second, .val (.long xb), .second, .val (.long xc), .second, .val (.int xq), .val (.long xr), .second, .val (.int pA), .val (.int pB), .val (.int pC), .val (.long xa), .second, .val (.long gA), .second, .val (.long lB), .second, .val (.long gB), .second, .val (.long lC), .second, .val (.long gC), .second, .val (.int q), .val (.int pk), .val (.long dl), .second, .val (.long r), .second, .val (.ref no), .val (.ref reg), .val (.ref ts), .val (.ref tA), .val (.ref tB), .val (.ref tC), .val (.ref tC)] [(.long r), (.int q), (.ref reg)])) rfl (by rw [hml]; rfl) (Steps.refl _) (argsL := [(.int q), (.long r)]) (rest := []) (lenOf pd_17 rfl) rfl (by show 2 * 0 + _ ≤ _; exact Nat.le_of_eq rfl) (hb hby at_433) (fun _ _ => ⟨rfl, eh_22, (by decide : 14 + 0 ≤ _), (by decide : 118 + 0 ≤ _)⟩)
                      dsimp only [Pt.U, Pt.locs, Pt.cells, Pt.slots] at X_24 l_24 y_24 z_24 st_24 hQ_24
                      subst l_24 y_24 z_24
                      obtain ⟨rfl, N_24q, eh_24⟩ := hQ_24
                      have N_24 := Fr.app N_22 N_24q
                      refine hst (fun _ kt => st_24.trans kt) ?_
                      show G (T_24.setTop (mkF mI 436 #[.val (.int sh), .val (.long xa), .second, .val (.long xb), .second, .val (.long xc), .second, .val (.int xq), .val (.long xr), .second, .val (.int pA), .val (.int pB), .val (.int pC), .val (.long xa), .second, .val (.long gA), .second, .val (.long lB), .second, .val (.long gB), .second, .val (.long lC), .second, .val (.long gC), .second, .val (.int q), .val (.int pk), .val (.long dl), .second, .val (.long r), .second, .val (.ref no), .val (.ref reg), .val (.ref ts), .val (.ref tA), .val (.ref tB), .val (.ref tC), .val (.ref tC)] [(own_fd q r (own_best q r none Lq3))]))
                      refine o_aload hst X_24.here hx (hb hby at_436) (pc' := 438) rfl rfl rfl ?_
                      have hres : own_fd q r (own_best q r none Lq3) = (.ref tC) := hfin.trans (by rw [own_exp, if_neg hoC])
                      refine hst (fun _ kt => Jvm.RoadKit.acmp (g := (mkF mI 438 #[.val (.int sh), .val (.long xa), .second, .val (.long xb), .second, .val (.long xc), .second, .val (.int xq), .val (.long xr), .second, .val (.int pA), .val (.int pB), .val (.int pC), .val (.long xa), .second, .val (.long gA), .second, .val (.long lB), .second, .val (.long gB), .second, .val (.long lC), .second, .val (.long gC), .second, .val (.int q), .val (.int pk), .val (.long dl), .second, .val (.long r), .second, .val (.ref no), .val (.ref reg), .val (.ref ts), .val (.ref tA), .val (.ref tB), .val (.ref tC), .val (.ref tC)] [(.ref tC), (own_fd q r (own_best q r none Lq3))])) X_24 hx rfl (own_fd_ref _ _ _) rfl (pc0 := 438) (pc' := 441) (same := true) rfl (hb hby at_438) rfl (decide_eq_true hres) (by decide) (by decide) kt) ?_
                      show G (T_24.setTop (mkF mI 441 #[.val (.int sh), .val (.long xa), .second, .val (.long xb), .second, .val (.long xc), .second, .val (.int xq), .val (.long xr), .second, .val (.int pA), .val (.int pB), .val (.int pC), .val (.long xa), .second, .val (.long gA), .second, .val (.long lB), .second, .val (.long gB), .second, .val (.long lC), .second, .val (.long gC), .second, .val (.int q), .val (.int pk), .val (.long dl), .second, .val (.long r), .second, .val (.ref no), .val (.ref reg), .val (.ref ts), .val (.ref tA), .val (.ref tB), .val (.ref tC), .val (.ref tC)] []))
                      refine o_iconst hst X_24.here hx (hb hby at_441) (pc' := 442) rfl (z := (1 : Int32)) rfl ?_
                      refine o_goto hst X_24.here hx (hb hby at_442) (by decide) (pc' := 446) (by decide) ?_
                      exact hend (own_goRet X_24 hx Bd.returns rfl (Or.inl ⟨rfl, by simp, _, rfl⟩) (hb hby at_446) Bd.notSynchronized (by rw [eh_24]; exact ⟨rfl, N_24⟩) (by decide) (by decide))
                ·
                  refine hst (fun _ kt => XS.ifNo X_17.here hx rfl (hb hby at_380) rfl ((if0 _ _).trans (feq hoA).1) kt) ?_
                  show G (T_17.setTop (mkF mI 383 #[.val (.int sh), .val (.long xa), .second, .val (.long xb), .second, .val (.long xc), .second, .val (.int xq), .val (.long xr), .second, .val (.int pA), .val (.int pB), .val (.int pC), .val (.long xa), .second, .val (.long gA), .second, .val (.long lB), .second, .val (.long gB), .second, .val (.long lC), .second, .val (.long gC), .second, .val (.int q), .val (.int pk), .val (.long dl), .second, .val (.long r), .second, .val (.ref no), .val (.ref reg), .val (.ref ts), .val (.ref tA), .val (.ref tB), .val (.ref tC), .val .null] []))
                  refine o_aload hst X_17.here hx (hb hby at_383) (pc' := 385) rfl rfl rfl ?_
                  refine o_astore hst X_17.here hx (hb hby at_385) (pc' := 387) rfl (Lt := #[.val (.int sh), .val (.long xa), .second, .val (.long xb), .second, .val (.long xc), .second, .val (.int xq), .val (.long xr), .second, .val (.int pA), .val (.int pB), .val (.int pC), .val (.long xa), .second, .val (.long gA), .second, .val (.long lB), .second, .val (.long gB), .second, .val (.long lC), .second, .val (.long gC), .second, .val (.int q), .val (.int pk), .val (.long dl), .second, .val (.long r), .second, .val (.ref no), .val (.ref reg), .val (.ref ts), .val (.ref tA), .val (.ref tB), .val (.ref tC), .val (.ref tA)]) rfl rfl ?_
                  refine o_iload hst X_17.here hx (hb hby at_387) (pc' := 389) rfl rfl ?_
                  refine o_lload hst X_17.here hx (hb hby at_389) (pc' := 391) rfl rfl ?_
                  refine o_lload hst X_17.here hx (hb hby at_391) (pc' := 393) rfl rfl ?_
                  refine o_iload hst X_17.here hx (hb hby at_393) (pc' := 395) rfl rfl ?_
                  refine o_lload hst X_17.here hx (hb hby at_395) (pc' := 397) rfl rfl ?_
                  obtain ⟨_, _, ⟨T_25, L_25, k_25, n_25⟩, -, X_25, ⟨Lc_25, hQ_25, l_25, y_25, z_25⟩, st_25⟩ := Jvm.LawKit.callS X_17 hx (y := (⟨x.cls, "holds", "(IJJIJ)Z"⟩ : MethodName)) hown (mvT hZ (own_w177 hw)) (mvT hZ (own_w178 hw)) (mvT hZ (own_w2 hw)) (mvT hZ (own_w179 hw)) (by decide) (backOf (W := 0) (rmho lL Z a0 hw [] pB lB gB q r  T_16.heap n0 Z0) hZ (own_w179 hw) (own_w2 hw) (by decide) (by decide)) (g := (mkF mI 397 #[.val (.int sh), .val (.long xa), .second, .val (.long xb), .second, .val (.long xc), .second, .val (.int xq), .val (.long xr), .second, .val (.int pA), .val (.int pB), .val (.int pC), .val (.long xa), .second, .val (.long gA), .second, .val (.long lB), .second, .val (.long gB), .second, .val (.long lC), .second, .val (.long gC), .second, .val (.int q), .val (.int pk), .val (.long dl), .second, .val (.long r), .second, .val (.ref no), .val (.ref reg), .val (.ref ts), .val (.ref tA), .val (.ref tB), .val (.ref tC), .val (.ref tA)] [(.long r), (.int q), (.long gB), (.long lB), (.int pB)])) rfl (by rw [hml]; rfl) (argsL := [(.int pB), (.long lB), (.long gB), (.int q), (.long r)]) (rest := []) (lenOf pd_16 rfl) rfl (by show 2 * 0 + _ ≤ _; exact Nat.le_of_eq rfl) (hb hby at_397) (fun _ _ => ⟨rfl, eh_17, (by decide : 14 + 0 ≤ _), (by decide : 118 + 0 ≤ _)⟩)
                  dsimp only [Pt.U, Pt.locs, Pt.cells, Pt.slots] at X_25 l_25 y_25 z_25 st_25 hQ_25
                  subst l_25 y_25 z_25
                  obtain ⟨rfl, N_25q, eh_25⟩ := hQ_25
                  have N_25 := Fr.app N_17 N_25q
                  refine hst (fun _ kt => st_25 _ kt) ?_
                  show G (T_25.setTop (mkF mI 400 #[.val (.int sh), .val (.long xa), .second, .val (.long xb), .second, .val (.long xc), .second, .val (.int xq), .val (.long xr), .second, .val (.int pA), .val (.int pB), .val (.int pC), .val (.long xa), .second, .val (.long gA), .second, .val (.long lB), .second, .val (.long gB), .second, .val (.long lC), .second, .val (.long gC), .second, .val (.int q), .val (.int pk), .val (.long dl), .second, .val (.long r), .second, .val (.ref no), .val (.ref reg), .val (.ref ts), .val (.ref tA), .val (.ref tB), .val (.ref tC), .val (.ref tA)] [(.int (own_ho pB lB gB q r))]))
                  by_cases hoB : (own_ho pB lB gB q r) = (0 : Int32)
                  ·
                    refine hst (fun _ kt => XS.ifYes X_25.here hx rfl (pc0 := 400) (pc' := 407) rfl (hb hby at_400) rfl ((if0 _ _).trans (teq hoB).1) (by decide) (by decide) kt) ?_
                    show G (T_25.setTop (mkF mI 407 #[.val (.int sh), .val (.long xa), .second, .val (.long xb), .second, .val (.long xc), .second, .val (.int xq), .val (.long xr), .second, .val (.int pA), .val (.int pB), .val (.int pC), .val (.long xa), .second, .val (.long gA), .second, .val (.long lB), .second, .val (.long gB), .second, .val (.long lC), .second, .val (.long gC), .second, .val (.int q), .val (.int pk), .val (.long dl), .second, .val (.long r), .second, .val (.ref no), .val (.ref reg), .val (.ref ts), .val (.ref tA), .val (.ref tB), .val (.ref tC), .val (.ref tA)] []))
                    refine o_iload hst X_25.here hx (hb hby at_407) (pc' := 409) rfl rfl ?_
                    refine o_lload hst X_25.here hx (hb hby at_409) (pc' := 411) rfl rfl ?_
                    refine o_lload hst X_25.here hx (hb hby at_411) (pc' := 413) rfl rfl ?_
                    refine o_iload hst X_25.here hx (hb hby at_413) (pc' := 415) rfl rfl ?_
                    refine o_lload hst X_25.here hx (hb hby at_415) (pc' := 417) rfl rfl ?_
                    obtain ⟨_, _, ⟨T_26, L_26, k_26, n_26⟩, -, X_26, ⟨Lc_26, hQ_26, l_26, y_26, z_26⟩, st_26⟩ := Jvm.LawKit.callS X_25 hx (y := (⟨x.cls, "holds", "(IJJIJ)Z"⟩ : MethodName)) hown (mvT hZ (own_w177 hw)) (mvT hZ (own_w178 hw)) (mvT hZ (own_w2 hw)) (mvT hZ (own_w179 hw)) (by decide) (backOf (W := 0) (rmho lL Z a0 hw [] pC lC gC q r  T_16.heap n0 Z0) hZ (own_w179 hw) (own_w2 hw) (by decide) (by decide)) (g := (mkF mI 417 #[.val (.int sh), .val (.long xa), .second, .val (.long xb), .second, .val (.long xc), .second, .val (.int xq), .val (.long xr), .second, .val (.int pA), .val (.int pB), .val (.int pC), .val (.long xa), .second, .val (.long gA), .second, .val (.long lB), .second, .val (.long gB), .second, .val (.long lC), .second, .val (.long gC), .second, .val (.int q), .val (.int pk), .val (.long dl), .second, .val (.long r), .second, .val (.ref no), .val (.ref reg), .val (.ref ts), .val (.ref tA), .val (.ref tB), .val (.ref tC), .val (.ref tA)] [(.long r), (.int q), (.long gC), (.long lC), (.int pC)])) rfl (by rw [hml]; rfl) (argsL := [(.int pC), (.long lC), (.long gC), (.int q), (.long r)]) (rest := []) (lenOf pd_16 rfl) rfl (by show 2 * 0 + _ ≤ _; exact Nat.le_of_eq rfl) (hb hby at_417) (fun _ _ => ⟨rfl, eh_25, (by decide : 14 + 0 ≤ _), (by decide : 118 + 0 ≤ _)⟩)
                    dsimp only [Pt.U, Pt.locs, Pt.cells, Pt.slots] at X_26 l_26 y_26 z_26 st_26 hQ_26
                    subst l_26 y_26 z_26
                    obtain ⟨rfl, N_26q, eh_26⟩ := hQ_26
                    have N_26 := Fr.app N_25 N_26q
                    refine hst (fun _ kt => st_26 _ kt) ?_
                    show G (T_26.setTop (mkF mI 420 #[.val (.int sh), .val (.long xa), .second, .val (.long xb), .second, .val (.long xc), .second, .val (.int xq), .val (.long xr), .second, .val (.int pA), .val (.int pB), .val (.int pC), .val (.long xa), .second, .val (.long gA), .second, .val (.long lB), .second, .val (.long gB), .second, .val (.long lC), .second, .val (.long gC), .second, .val (.int q), .val (.int pk), .val (.long dl), .second, .val (.long r), .second, .val (.ref no), .val (.ref reg), .val (.ref ts), .val (.ref tA), .val (.ref tB), .val (.ref tC), .val (.ref tA)] [(.int (own_ho pC lC gC q r))]))
                    by_cases hoC : (own_ho pC lC gC q r) = (0 : Int32)
                    ·
                      refine hst (fun _ kt => XS.ifYes X_26.here hx rfl (pc0 := 420) (pc' := 427) rfl (hb hby at_420) rfl ((if0 _ _).trans (teq hoC).1) (by decide) (by decide) kt) ?_
                      show G (T_26.setTop (mkF mI 427 #[.val (.int sh), .val (.long xa), .second, .val (.long xb), .second, .val (.long xc), .second, .val (.int xq), .val (.long xr), .second, .val (.int pA), .val (.int pB), .val (.int pC), .val (.long xa), .second, .val (.long gA), .second, .val (.long lB), .second, .val (.long gB), .second, .val (.long lC), .second, .val (.long gC), .second, .val (.int q), .val (.int pk), .val (.long dl), .second, .val (.long r), .second, .val (.ref no), .val (.ref reg), .val (.ref ts), .val (.ref tA), .val (.ref tB), .val (.ref tC), .val (.ref tA)] []))
                      refine o_aload hst X_26.here hx (hb hby at_427) (pc' := 429) rfl rfl rfl ?_
                      refine o_iload hst X_26.here hx (hb hby at_429) (pc' := 431) rfl rfl ?_
                      refine o_lload hst X_26.here hx (hb hby at_431) (pc' := 433) rfl rfl ?_
                      obtain ⟨cq_27, kq_27, q_27a, q_27b, q_27c⟩ := isOf hZ eh_26 E_reg
                      obtain ⟨_, _, ⟨T_27, L_27, k_27, n_27⟩, -, X_27, ⟨Lc_27, hQ_27, l_27, y_27, z_27⟩, st_27⟩ := X_26.virtualBack hx (y := (⟨own_SS, "find", "(IJ)Lcom/example/tierfold/tierfold/tiered/SharedTail;"⟩ : MethodName)) (z := (⟨own_SS, "find", "(IJ)Lcom/example/tierfold/tierfold/tiered/SharedTail;"⟩ : MethodName)) hown (mvT hZ (own_w180 hw)) (mvT hZ (own_w181 hw)) (notFace_of_selects (args := #[]) (mvT hZ (own_w183 hw))) (mvT hZ (own_w183 hw)) (mvT hZ (own_w182 hw)) (by decide) (backOf (W := 0) (rmfd lL Z a0 hw [] reg q r (.ref rb2) Lq3 T_16.heap n0 Z0 F_kept_reg C_3 S3) hZ (own_w184 hw) (own_w15 hw) (by decide) (by decide)) q_27a q_27c (g := (mkF mI 433 #[.val (.int sh), .val (.long xa), .second, .val (.long xb), .second, .val (.long xc), .second, .val (.int xq), .val (.long xr), .second, .val (.int pA), .val (.int pB), .val (.int pC), .val (.long xa), .second, .val (.long gA), .second, .val (.long lB), .second, .val (.long gB), .second, .val (.long lC), .second, .val (.long gC), .second, .val (.int q), .val (.int pk), .val (.long dl), .second, .val (.long r), .second, .val (.ref no), .val (.ref reg), .val (.ref ts), .val (.ref tA), .val (.ref tB), .val (.ref tC), .val (.ref tA)] [(.long r), (.int q), (.ref reg)])) rfl (by rw [hml]; rfl) (Steps.refl _) (argsL := [(.int q), (.long r)]) (rest := []) (lenOf pd_17 rfl) rfl (by show 2 * 0 + _ ≤ _; exact Nat.le_of_eq rfl) (hb hby at_433) (fun _ _ => ⟨rfl, eh_26, (by decide : 14 + 0 ≤ _), (by decide : 118 + 0 ≤ _)⟩)
                      dsimp only [Pt.U, Pt.locs, Pt.cells, Pt.slots] at X_27 l_27 y_27 z_27 st_27 hQ_27
                      subst l_27 y_27 z_27
                      obtain ⟨rfl, N_27q, eh_27⟩ := hQ_27
                      have N_27 := Fr.app N_26 N_27q
                      refine hst (fun _ kt => st_27.trans kt) ?_
                      show G (T_27.setTop (mkF mI 436 #[.val (.int sh), .val (.long xa), .second, .val (.long xb), .second, .val (.long xc), .second, .val (.int xq), .val (.long xr), .second, .val (.int pA), .val (.int pB), .val (.int pC), .val (.long xa), .second, .val (.long gA), .second, .val (.long lB), .second, .val (.long gB), .second, .val (.long lC), .second, .val (.long gC), .second, .val (.int q), .val (.int pk), .val (.long dl), .second, .val (.long r), .second, .val (.ref no), .val (.ref reg), .val (.ref ts), .val (.ref tA), .val (.ref tB), .val (.ref tC), .val (.ref tA)] [(own_fd q r (own_best q r none Lq3))]))
                      refine o_aload hst X_27.here hx (hb hby at_436) (pc' := 438) rfl rfl rfl ?_
                      have hres : own_fd q r (own_best q r none Lq3) = (.ref tA) := hfin.trans (by rw [own_exp, if_pos hoC, if_pos hoB, if_neg hoA])
                      refine hst (fun _ kt => Jvm.RoadKit.acmp (g := (mkF mI 438 #[.val (.int sh), .val (.long xa), .second, .val (.long xb), .second, .val (.long xc), .second, .val (.int xq), .val (.long xr), .second, .val (.int pA), .val (.int pB), .val (.int pC), .val (.long xa), .second, .val (.long gA), .second, .val (.long lB), .second, .val (.long gB), .second, .val (.long lC), .second, .val (.long gC), .second, .val (.int q), .val (.int pk), .val (.long dl), .second, .val (.long r), .second, .val (.ref no), .val (.ref reg), .val (.ref ts), .val (.ref tA), .val (.ref tB), .val (.ref tC), .val (.ref tA)] [(.ref tA), (own_fd q r (own_best q r none Lq3))])) X_27 hx rfl (own_fd_ref _ _ _) rfl (pc0 := 438) (pc' := 441) (same := true) rfl (hb hby at_438) rfl (decide_eq_true hres) (by decide) (by decide) kt) ?_
                      show G (T_27.setTop (mkF mI 441 #[.val (.int sh), .val (.long xa), .second, .val (.long xb), .second, .val (.long xc), .second, .val (.int xq), .val (.long xr), .second, .val (.int pA), .val (.int pB), .val (.int pC), .val (.long xa), .second, .val (.long gA), .second, .val (.long lB), .second, .val (.long gB), .second, .val (.long lC), .second, .val (.long gC), .second, .val (.int q), .val (.int pk), .val (.long dl), .second, .val (.long r), .second, .val (.ref no), .val (.ref reg), .val (.ref ts), .val (.ref tA), .val (.ref tB), .val (.ref tC), .val (.ref tA)] []))
                      refine o_iconst hst X_27.here hx (hb hby at_441) (pc' := 442) rfl (z := (1 : Int32)) rfl ?_
                      refine o_goto hst X_27.here hx (hb hby at_442) (by decide) (pc' := 446) (by decide) ?_
                      exact hend (own_goRet X_27 hx Bd.returns rfl (Or.inl ⟨rfl, by simp, _, rfl⟩) (hb hby at_446) Bd.notSynchronized (by rw [eh_27]; exact ⟨rfl, N_27⟩) (by decide) (by decide))
                    ·
                      refine hst (fun _ kt => XS.ifNo X_26.here hx rfl (hb hby at_420) rfl ((if0 _ _).trans (feq hoC).1) kt) ?_
                      show G (T_26.setTop (mkF mI 423 #[.val (.int sh), .val (.long xa), .second, .val (.long xb), .second, .val (.long xc), .second, .val (.int xq), .val (.long xr), .second, .val (.int pA), .val (.int pB), .val (.int pC), .val (.long xa), .second, .val (.long gA), .second, .val (.long lB), .second, .val (.long gB), .second, .val (.long lC), .second, .val (.long gC), .second, .val (.int q), .val (.int pk), .val (.long dl), .second, .val (.long r), .second, .val (.ref no), .val (.ref reg), .val (.ref ts), .val (.ref tA), .val (.ref tB), .val (.ref tC), .val (.ref tA)] []))
                      refine o_aload hst X_26.here hx (hb hby at_423) (pc' := 425) rfl rfl rfl ?_
                      refine o_astore hst X_26.here hx (hb hby at_425) (pc' := 427) rfl (Lt := #[.val (.int sh), .val (.long xa), .second, .val (.long xb), .second, .val (.long xc), .second, .val (.int xq), .val (.long xr), .second, .val (.int pA), .val (.int pB), .val (.int pC), .val (.long xa), .second, .val (.long gA), .second, .val (.long lB), .second, .val (.long gB), .second, .val (.long lC), .second, .val (.long gC), .second, .val (.int q), .val (.int pk), .val (.long dl), .second, .val (.long r), .second, .val (.ref no), .val (.ref reg), .val (.ref ts), .val (.ref tA), .val (.ref tB), .val (.ref tC), .val (.ref tC)]) rfl rfl ?_
                      refine o_aload hst X_26.here hx (hb hby at_427) (pc' := 429) rfl rfl rfl ?_
                      refine o_iload hst X_26.here hx (hb hby at_429) (pc' := 431) rfl rfl ?_
                      refine o_lload hst X_26.here hx (hb hby at_431) (pc' := 433) rfl rfl ?_
                      obtain ⟨cq_28, kq_28, q_28a, q_28b, q_28c⟩ := isOf hZ eh_26 E_reg
                      obtain ⟨_, _, ⟨T_28, L_28, k_28, n_28⟩, -, X_28, ⟨Lc_28, hQ_28, l_28, y_28, z_28⟩, st_28⟩ := X_26.virtualBack hx (y := (⟨own_SS, "find", "(IJ)Lcom/example/tierfold/tierfold/tiered/SharedTail;"⟩ : MethodName)) (z := (⟨own_SS, "find", "(IJ)Lcom/example/tierfold/tierfold/tiered/SharedTail;"⟩ : MethodName)) hown (mvT hZ (own_w180 hw)) (mvT hZ (own_w181 hw)) (notFace_of_selects (args := #[]) (mvT hZ (own_w183 hw))) (mvT hZ (own_w183 hw)) (mvT hZ (own_w182 hw)) (by decide) (backOf (W := 0) (rmfd lL Z a0 hw [] reg q r (.ref rb2) Lq3 T_16.heap n0 Z0 F_kept_reg C_3 S3) hZ (own_w184 hw) (own_w15 hw) (by decide) (by decide)) q_28a q_28c (g := (mkF mI 433 #[.val (.int sh), .val (.long xa), .second, .val (.long xb), .second, .val (.long xc), .second, .val (.int xq), .val (.long xr), .second, .val (.int pA), .val (.int pB), .val (.int pC), .val (.long xa), .second, .val (.long gA), .second, .val (.long lB), .second, .val (.long gB), .second, .val (.long lC), .second, .val (.long gC), .second, .val (.int q), .val (.int pk), .val (.long dl), .second, .val (.long r), .second, .val (.ref no), .val (.ref reg), .val (.ref ts), .val (.ref tA), .val (.ref tB), .val (.ref tC), .val (.ref tC)] [(.long r), (.int q), (.ref reg)])) rfl (by rw [hml]; rfl) (Steps.refl _) (argsL := [(.int q), (.long r)]) (rest := []) (lenOf pd_17 rfl) rfl (by show 2 * 0 + _ ≤ _; exact Nat.le_of_eq rfl) (hb hby at_433) (fun _ _ => ⟨rfl, eh_26, (by decide : 14 + 0 ≤ _), (by decide : 118 + 0 ≤ _)⟩)
                      dsimp only [Pt.U, Pt.locs, Pt.cells, Pt.slots] at X_28 l_28 y_28 z_28 st_28 hQ_28
                      subst l_28 y_28 z_28
                      obtain ⟨rfl, N_28q, eh_28⟩ := hQ_28
                      have N_28 := Fr.app N_26 N_28q
                      refine hst (fun _ kt => st_28.trans kt) ?_
                      show G (T_28.setTop (mkF mI 436 #[.val (.int sh), .val (.long xa), .second, .val (.long xb), .second, .val (.long xc), .second, .val (.int xq), .val (.long xr), .second, .val (.int pA), .val (.int pB), .val (.int pC), .val (.long xa), .second, .val (.long gA), .second, .val (.long lB), .second, .val (.long gB), .second, .val (.long lC), .second, .val (.long gC), .second, .val (.int q), .val (.int pk), .val (.long dl), .second, .val (.long r), .second, .val (.ref no), .val (.ref reg), .val (.ref ts), .val (.ref tA), .val (.ref tB), .val (.ref tC), .val (.ref tC)] [(own_fd q r (own_best q r none Lq3))]))
                      refine o_aload hst X_28.here hx (hb hby at_436) (pc' := 438) rfl rfl rfl ?_
                      have hres : own_fd q r (own_best q r none Lq3) = (.ref tC) := hfin.trans (by rw [own_exp, if_neg hoC])
                      refine hst (fun _ kt => Jvm.RoadKit.acmp (g := (mkF mI 438 #[.val (.int sh), .val (.long xa), .second, .val (.long xb), .second, .val (.long xc), .second, .val (.int xq), .val (.long xr), .second, .val (.int pA), .val (.int pB), .val (.int pC), .val (.long xa), .second, .val (.long gA), .second, .val (.long lB), .second, .val (.long gB), .second, .val (.long lC), .second, .val (.long gC), .second, .val (.int q), .val (.int pk), .val (.long dl), .second, .val (.long r), .second, .val (.ref no), .val (.ref reg), .val (.ref ts), .val (.ref tA), .val (.ref tB), .val (.ref tC), .val (.ref tC)] [(.ref tC), (own_fd q r (own_best q r none Lq3))])) X_28 hx rfl (own_fd_ref _ _ _) rfl (pc0 := 438) (pc' := 441) (same := true) rfl (hb hby at_438) rfl (decide_eq_true hres) (by decide) (by decide) kt) ?_
                      show G (T_28.setTop (mkF mI 441 #[.val (.int sh), .val (.long xa), .second, .val (.long xb), .second, .val (.long xc), .second, .val (.int xq), .val (.long xr), .second, .val (.int pA), .val (.int pB), .val (.int pC), .val (.long xa), .second, .val (.long gA), .second, .val (.long lB), .second, .val (.long gB), .second, .val (.long lC), .second, .val (.long gC), .second, .val (.int q), .val (.int pk), .val (.long dl), .second, .val (.long r), .second, .val (.ref no), .val (.ref reg), .val (.ref ts), .val (.ref tA), .val (.ref tB), .val (.ref tC), .val (.ref tC)] []))
                      refine o_iconst hst X_28.here hx (hb hby at_441) (pc' := 442) rfl (z := (1 : Int32)) rfl ?_
                      refine o_goto hst X_28.here hx (hb hby at_442) (by decide) (pc' := 446) (by decide) ?_
                      exact hend (own_goRet X_28 hx Bd.returns rfl (Or.inl ⟨rfl, by simp, _, rfl⟩) (hb hby at_446) Bd.notSynchronized (by rw [eh_28]; exact ⟨rfl, N_28⟩) (by decide) (by decide))
                  ·
                    refine hst (fun _ kt => XS.ifNo X_25.here hx rfl (hb hby at_400) rfl ((if0 _ _).trans (feq hoB).1) kt) ?_
                    show G (T_25.setTop (mkF mI 403 #[.val (.int sh), .val (.long xa), .second, .val (.long xb), .second, .val (.long xc), .second, .val (.int xq), .val (.long xr), .second, .val (.int pA), .val (.int pB), .val (.int pC), .val (.long xa), .second, .val (.long gA), .second, .val (.long lB), .second, .val (.long gB), .second, .val (.long lC), .second, .val (.long gC), .second, .val (.int q), .val (.int pk), .val (.long dl), .second, .val (.long r), .second, .val (.ref no), .val (.ref reg), .val (.ref ts), .val (.ref tA), .val (.ref tB), .val (.ref tC), .val (.ref tA)] []))
                    refine o_aload hst X_25.here hx (hb hby at_403) (pc' := 405) rfl rfl rfl ?_
                    refine o_astore hst X_25.here hx (hb hby at_405) (pc' := 407) rfl (Lt := #[.val (.int sh), .val (.long xa), .second, .val (.long xb), .second, .val (.long xc), .second, .val (.int xq), .val (.long xr), .second, .val (.int pA), .val (.int pB), .val (.int pC), .val (.long xa), .second, .val (.long gA), .second, .val (.long lB), .second, .val (.long gB), .second, .val (.long lC), .second, .val (.long gC), .second, .val (.int q), .val (.int pk), .val (.long dl), .second, .val (.long r), .second, .val (.ref no), .val (.ref reg), .val (.ref ts), .val (.ref tA), .val (.ref tB), .val (.ref tC), .val (.ref tB)]) rfl rfl ?_
                    refine o_iload hst X_25.here hx (hb hby at_407) (pc' := 409) rfl rfl ?_
                    refine o_lload hst X_25.here hx (hb hby at_409) (pc' := 411) rfl rfl ?_
                    refine o_lload hst X_25.here hx (hb hby at_411) (pc' := 413) rfl rfl ?_
                    refine o_iload hst X_25.here hx (hb hby at_413) (pc' := 415) rfl rfl ?_
                    refine o_lload hst X_25.here hx (hb hby at_415) (pc' := 417) rfl rfl ?_
                    obtain ⟨_, _, ⟨T_29, L_29, k_29, n_29⟩, -, X_29, ⟨Lc_29, hQ_29, l_29, y_29, z_29⟩, st_29⟩ := Jvm.LawKit.callS X_25 hx (y := (⟨x.cls, "holds", "(IJJIJ)Z"⟩ : MethodName)) hown (mvT hZ (own_w177 hw)) (mvT hZ (own_w178 hw)) (mvT hZ (own_w2 hw)) (mvT hZ (own_w179 hw)) (by decide) (backOf (W := 0) (rmho lL Z a0 hw [] pC lC gC q r  T_16.heap n0 Z0) hZ (own_w179 hw) (own_w2 hw) (by decide) (by decide)) (g := (mkF mI 417 #[.val (.int sh), .val (.long xa), .second, .val (.long xb), .second, .val (.long xc), .second, .val (.int xq), .val (.long xr), .second, .val (.int pA), .val (.int pB), .val (.int pC), .val (.long xa), .second, .val (.long gA), .second, .val (.long lB), .second, .val (.long gB), .second, .val (.long lC), .second, .val (.long gC), .second, .val (.int q), .val (.int pk), .val (.long dl), .second, .val (.long r), .second, .val (.ref no), .val (.ref reg), .val (.ref ts), .val (.ref tA), .val (.ref tB), .val (.ref tC), .val (.ref tB)] [(.long r), (.int q), (.long gC), (.long lC), (.int pC)])) rfl (by rw [hml]; rfl) (argsL := [(.int pC), (.long lC), (.long gC), (.int q), (.long r)]) (rest := []) (lenOf pd_16 rfl) rfl (by show 2 * 0 + _ ≤ _; exact Nat.le_of_eq rfl) (hb hby at_417) (fun _ _ => ⟨rfl, eh_25, (by decide : 14 + 0 ≤ _), (by decide : 118 + 0 ≤ _)⟩)
                    dsimp only [Pt.U, Pt.locs, Pt.cells, Pt.slots] at X_29 l_29 y_29 z_29 st_29 hQ_29
                    subst l_29 y_29 z_29
                    obtain ⟨rfl, N_29q, eh_29⟩ := hQ_29
                    have N_29 := Fr.app N_25 N_29q
                    refine hst (fun _ kt => st_29 _ kt) ?_
                    show G (T_29.setTop (mkF mI 420 #[.val (.int sh), .val (.long xa), .second, .val (.long xb), .second, .val (.long xc), .second, .val (.int xq), .val (.long xr), .second, .val (.int pA), .val (.int pB), .val (.int pC), .val (.long xa), .second, .val (.long gA), .second, .val (.long lB), .second, .val (.long gB), .second, .val (.long lC), .second, .val (.long gC), .second, .val (.int q), .val (.int pk), .val (.long dl), .second, .val (.long r), .second, .val (.ref no), .val (.ref reg), .val (.ref ts), .val (.ref tA), .val (.ref tB), .val (.ref tC), .val (.ref tB)] [(.int (own_ho pC lC gC q r))]))
                    by_cases hoC : (own_ho pC lC gC q r) = (0 : Int32)
                    ·
                      refine hst (fun _ kt => XS.ifYes X_29.here hx rfl (pc0 := 420) (pc' := 427) rfl (hb hby at_420) rfl ((if0 _ _).trans (teq hoC).1) (by decide) (by decide) kt) ?_
                      show G (T_29.setTop (mkF mI 427 #[.val (.int sh), .val (.long xa), .second, .val (.long xb), .second, .val (.long xc), .second, .val (.int xq), .val (.long xr), .second, .val (.int pA), .val (.int pB), .val (.int pC), .val (.long xa), .second, .val (.long gA), .second, .val (.long lB), .second, .val (.long gB), .second, .val (.long lC), .second, .val (.long gC), .second, .val (.int q), .val (.int pk), .val (.long dl), .second, .val (.long r), .second, .val (.ref no), .val (.ref reg), .val (.ref ts), .val (.ref tA), .val (.ref tB), .val (.ref tC), .val (.ref tB)] []))
                      refine o_aload hst X_29.here hx (hb hby at_427) (pc' := 429) rfl rfl rfl ?_
                      refine o_iload hst X_29.here hx (hb hby at_429) (pc' := 431) rfl rfl ?_
                      refine o_lload hst X_29.here hx (hb hby at_431) (pc' := 433) rfl rfl ?_
                      obtain ⟨cq_30, kq_30, q_30a, q_30b, q_30c⟩ := isOf hZ eh_29 E_reg
                      obtain ⟨_, _, ⟨T_30, L_30, k_30, n_30⟩, -, X_30, ⟨Lc_30, hQ_30, l_30, y_30, z_30⟩, st_30⟩ := X_29.virtualBack hx (y := (⟨own_SS, "find", "(IJ)Lcom/example/tierfold/tierfold/tiered/SharedTail;"⟩ : MethodName)) (z := (⟨own_SS, "find", "(IJ)Lcom/example/tierfold/tierfold/tiered/SharedTail;"⟩ : MethodName)) hown (mvT hZ (own_w180 hw)) (mvT hZ (own_w181 hw)) (notFace_of_selects (args := #[]) (mvT hZ (own_w183 hw))) (mvT hZ (own_w183 hw)) (mvT hZ (own_w182 hw)) (by decide) (backOf (W := 0) (rmfd lL Z a0 hw [] reg q r (.ref rb2) Lq3 T_16.heap n0 Z0 F_kept_reg C_3 S3) hZ (own_w184 hw) (own_w15 hw) (by decide) (by decide)) q_30a q_30c (g := (mkF mI 433 #[.val (.int sh), .val (.long xa), .second, .val (.long xb), .second, .val (.long xc), .second, .val (.int xq), .val (.long xr), .second, .val (.int pA), .val (.int pB), .val (.int pC), .val (.long xa), .second, .val (.long gA), .second, .val (.long lB), .second, .val (.long gB), .second, .val (.long lC), .second, .val (.long gC), .second, .val (.int q), .val (.int pk), .val (.long dl), .second, .val (.long r), .second, .val (.ref no), .val (.ref reg), .val (.ref ts), .val (.ref tA), .val (.ref tB), .val (.ref tC), .val (.ref tB)] [(.long r), (.int q), (.ref reg)])) rfl (by rw [hml]; rfl) (Steps.refl _) (argsL := [(.int q), (.long r)]) (rest := []) (lenOf pd_17 rfl) rfl (by show 2 * 0 + _ ≤ _; exact Nat.le_of_eq rfl) (hb hby at_433) (fun _ _ => ⟨rfl, eh_29, (by decide : 14 + 0 ≤ _), (by decide : 118 + 0 ≤ _)⟩)
                      dsimp only [Pt.U, Pt.locs, Pt.cells, Pt.slots] at X_30 l_30 y_30 z_30 st_30 hQ_30
                      subst l_30 y_30 z_30
                      obtain ⟨rfl, N_30q, eh_30⟩ := hQ_30
                      have N_30 := Fr.app N_29 N_30q
                      refine hst (fun _ kt => st_30.trans kt) ?_
                      show G (T_30.setTop (mkF mI 436 #[.val (.int sh), .val (.long xa), .second, .val (.long xb), .second, .val (.long xc), .second, .val (.int xq), .val (.long xr), .second, .val (.int pA), .val (.int pB), .val (.int pC), .val (.long xa), .second, .val (.long gA), .second, .val (.long lB), .second, .val (.long gB), .second, .val (.long lC), .second, .val (.long gC), .second, .val (.int q), .val (.int pk), .val (.long dl), .second, .val (.long r), .second, .val (.ref no), .val (.ref reg), .val (.ref ts), .val (.ref tA), .val (.ref tB), .val (.ref tC), .val (.ref tB)] [(own_fd q r (own_best q r none Lq3))]))
                      refine o_aload hst X_30.here hx (hb hby at_436) (pc' := 438) rfl rfl rfl ?_
                      have hres : own_fd q r (own_best q r none Lq3) = (.ref tB) := hfin.trans (by rw [own_exp, if_pos hoC, if_neg hoB])
                      refine hst (fun _ kt => Jvm.RoadKit.acmp (g := (mkF mI 438 #[.val (.int sh), .val (.long xa), .second, .val (.long xb), .second, .val (.long xc), .second, .val (.int xq), .val (.long xr), .second, .val (.int pA), .val (.int pB), .val (.int pC), .val (.long xa), .second, .val (.long gA), .second, .val (.long lB), .second, .val (.long gB), .second, .val (.long lC), .second, .val (.long gC), .second, .val (.int q), .val (.int pk), .val (.long dl), .second, .val (.long r), .second, .val (.ref no), .val (.ref reg), .val (.ref ts), .val (.ref tA), .val (.ref tB), .val (.ref tC), .val (.ref tB)] [(.ref tB), (own_fd q r (own_best q r none Lq3))])) X_30 hx rfl (own_fd_ref _ _ _) rfl (pc0 := 438) (pc' := 441) (same := true) rfl (hb hby at_438) rfl (decide_eq_true hres) (by decide) (by decide) kt) ?_
                      show G (T_30.setTop (mkF mI 441 #[.val (.int sh), .val (.long xa), .second, .val (.long xb), .second, .val (.long xc), .second, .val (.int xq), .val (.long xr), .second, .val (.int pA), .val (.int pB), .val (.int pC), .val (.long xa), .second, .val (.long gA), .second, .val (.long lB), .second, .val (.long gB), .second, .val (.long lC), .second, .val (.long gC), .second, .val (.int q), .val (.int pk), .val (.long dl), .second, .val (.long r), .second, .val (.ref no), .val (.ref reg), .val (.ref ts), .val (.ref tA), .val (.ref tB), .val (.ref tC), .val (.ref tB)] []))
                      refine o_iconst hst X_30.here hx (hb hby at_441) (pc' := 442) rfl (z := (1 : Int32)) rfl ?_
                      refine o_goto hst X_30.here hx (hb hby at_442) (by decide) (pc' := 446) (by decide) ?_
                      exact hend (own_goRet X_30 hx Bd.returns rfl (Or.inl ⟨rfl, by simp, _, rfl⟩) (hb hby at_446) Bd.notSynchronized (by rw [eh_30]; exact ⟨rfl, N_30⟩) (by decide) (by decide))
                    ·
                      refine hst (fun _ kt => XS.ifNo X_29.here hx rfl (hb hby at_420) rfl ((if0 _ _).trans (feq hoC).1) kt) ?_
                      show G (T_29.setTop (mkF mI 423 #[.val (.int sh), .val (.long xa), .second, .val (.long xb), .second, .val (.long xc), .second, .val (.int xq), .val (.long xr), .second, .val (.int pA), .val (.int pB), .val (.int pC), .val (.long xa), .second, .val (.long gA), .second, .val (.long lB), .second, .val (.long gB), .second, .val (.long lC), .second, .val (.long gC), .second, .val (.int q), .val (.int pk), .val (.long dl), .second, .val (.long r), .second, .val (.ref no), .val (.ref reg), .val (.ref ts), .val (.ref tA), .val (.ref tB), .val (.ref tC), .val (.ref tB)] []))
                      refine o_aload hst X_29.here hx (hb hby at_423) (pc' := 425) rfl rfl rfl ?_
                      refine o_astore hst X_29.here hx (hb hby at_425) (pc' := 427) rfl (Lt := #[.val (.int sh), .val (.long xa), .second, .val (.long xb), .second, .val (.long xc), .second, .val (.int xq), .val (.long xr), .second, .val (.int pA), .val (.int pB), .val (.int pC), .val (.long xa), .second, .val (.long gA), .second, .val (.long lB), .second, .val (.long gB), .second, .val (.long lC), .second, .val (.long gC), .second, .val (.int q), .val (.int pk), .val (.long dl), .second, .val (.long r), .second, .val (.ref no), .val (.ref reg), .val (.ref ts), .val (.ref tA), .val (.ref tB), .val (.ref tC), .val (.ref tC)]) rfl rfl ?_
                      refine o_aload hst X_29.here hx (hb hby at_427) (pc' := 429) rfl rfl rfl ?_
                      refine o_iload hst X_29.here hx (hb hby at_429) (pc' := 431) rfl rfl ?_
                      refine o_lload hst X_29.here hx (hb hby at_431) (pc' := 433) rfl rfl ?_
                      obtain ⟨cq_31, kq_31, q_31a, q_31b, q_31c⟩ := isOf hZ eh_29 E_reg
                      obtain ⟨_, _, ⟨T_31, L_31, k_31, n_31⟩, -, X_31, ⟨Lc_31, hQ_31, l_31, y_31, z_31⟩, st_31⟩ := X_29.virtualBack hx (y := (⟨own_SS, "find", "(IJ)Lcom/example/tierfold/tierfold/tiered/SharedTail;"⟩ : MethodName)) (z := (⟨own_SS, "find", "(IJ)Lcom/example/tierfold/tierfold/tiered/SharedTail;"⟩ : MethodName)) hown (mvT hZ (own_w180 hw)) (mvT hZ (own_w181 hw)) (notFace_of_selects (args := #[]) (mvT hZ (own_w183 hw))) (mvT hZ (own_w183 hw)) (mvT hZ (own_w182 hw)) (by decide) (backOf (W := 0) (rmfd lL Z a0 hw [] reg q r (.ref rb2) Lq3 T_16.heap n0 Z0 F_kept_reg C_3 S3) hZ (own_w184 hw) (own_w15 hw) (by decide) (by decide)) q_31a q_31c (g := (mkF mI 433 #[.val (.int sh), .val (.long xa), .second, .val (.long xb), .second, .val (.long xc), .second, .val (.int xq), .val (.long xr), .second, .val (.int pA), .val (.int pB), .val (.int pC), .val (.long xa), .second, .val (.long gA), .second, .val (.long lB), .second, .val (.long gB), .second, .val (.long lC), .second, .val (.long gC), .second, .val (.int q), .val (.int pk), .val (.long dl), .second, .val (.long r), .second, .val (.ref no), .val (.ref reg), .val (.ref ts), .val (.ref tA), .val (.ref tB), .val (.ref tC), .val (.ref tC)] [(.long r), (.int q), (.ref reg)])) rfl (by rw [hml]; rfl) (Steps.refl _) (argsL := [(.int q), (.long r)]) (rest := []) (lenOf pd_17 rfl) rfl (by show 2 * 0 + _ ≤ _; exact Nat.le_of_eq rfl) (hb hby at_433) (fun _ _ => ⟨rfl, eh_29, (by decide : 14 + 0 ≤ _), (by decide : 118 + 0 ≤ _)⟩)
                      dsimp only [Pt.U, Pt.locs, Pt.cells, Pt.slots] at X_31 l_31 y_31 z_31 st_31 hQ_31
                      subst l_31 y_31 z_31
                      obtain ⟨rfl, N_31q, eh_31⟩ := hQ_31
                      have N_31 := Fr.app N_29 N_31q
                      refine hst (fun _ kt => st_31.trans kt) ?_
                      show G (T_31.setTop (mkF mI 436 #[.val (.int sh), .val (.long xa), .second, .val (.long xb), .second, .val (.long xc), .second, .val (.int xq), .val (.long xr), .second, .val (.int pA), .val (.int pB), .val (.int pC), .val (.long xa), .second, .val (.long gA), .second, .val (.long lB), .second, .val (.long gB), .second, .val (.long lC), .second, .val (.long gC), .second, .val (.int q), .val (.int pk), .val (.long dl), .second, .val (.long r), .second, .val (.ref no), .val (.ref reg), .val (.ref ts), .val (.ref tA), .val (.ref tB), .val (.ref tC), .val (.ref tC)] [(own_fd q r (own_best q r none Lq3))]))
                      refine o_aload hst X_31.here hx (hb hby at_436) (pc' := 438) rfl rfl rfl ?_
                      have hres : own_fd q r (own_best q r none Lq3) = (.ref tC) := hfin.trans (by rw [own_exp, if_neg hoC])
                      refine hst (fun _ kt => Jvm.RoadKit.acmp (g := (mkF mI 438 #[.val (.int sh), .val (.long xa), .second, .val (.long xb), .second, .val (.long xc), .second, .val (.int xq), .val (.long xr), .second, .val (.int pA), .val (.int pB), .val (.int pC), .val (.long xa), .second, .val (.long gA), .second, .val (.long lB), .second, .val (.long gB), .second, .val (.long lC), .second, .val (.long gC), .second, .val (.int q), .val (.int pk), .val (.long dl), .second, .val (.long r), .second, .val (.ref no), .val (.ref reg), .val (.ref ts), .val (.ref tA), .val (.ref tB), .val (.ref tC), .val (.ref tC)] [(.ref tC), (own_fd q r (own_best q r none Lq3))])) X_31 hx rfl (own_fd_ref _ _ _) rfl (pc0 := 438) (pc' := 441) (same := true) rfl (hb hby at_438) rfl (decide_eq_true hres) (by decide) (by decide) kt) ?_
                      show G (T_31.setTop (mkF mI 441 #[.val (.int sh), .val (.long xa), .second, .val (.long xb), .second, .val (.long xc), .second, .val (.int xq), .val (.long xr), .second, .val (.int pA), .val (.int pB), .val (.int pC), .val (.long xa), .second, .val (.long gA), .second, .val (.long lB), .second, .val (.long gB), .second, .val (.long lC), .second, .val (.long gC), .second, .val (.int q), .val (.int pk), .val (.long dl), .second, .val (.long r), .second, .val (.ref no), .val (.ref reg), .val (.ref ts), .val (.ref tA), .val (.ref tB), .val (.ref tC), .val (.ref tC)] []))
                      refine o_iconst hst X_31.here hx (hb hby at_441) (pc' := 442) rfl (z := (1 : Int32)) rfl ?_
                      refine o_goto hst X_31.here hx (hb hby at_442) (by decide) (pc' := 446) (by decide) ?_
                      exact hend (own_goRet X_31 hx Bd.returns rfl (Or.inl ⟨rfl, by simp, _, rfl⟩) (hb hby at_446) Bd.notSynchronized (by rw [eh_31]; exact ⟨rfl, N_31⟩) (by decide) (by decide))
              by_cases hk0 : pk = (0 : Int32)
              ·
                refine hst (fun _ kt => XS.ifNo X_8.here hx rfl (hb hby at_230) rfl ((if0 _ _).trans (teq hk0).2) kt) ?_
                show G (T_8.setTop (mkF mI 233 #[.val (.int sh), .val (.long xa), .second, .val (.long xb), .second, .val (.long xc), .second, .val (.int xq), .val (.long xr), .second, .val (.int pA), .val (.int pB), .val (.int pC), .val (.long xa), .second, .val (.long gA), .second, .val (.long lB), .second, .val (.long gB), .second, .val (.long lC), .second, .val (.long gC), .second, .val (.int q), .val (.int pk), .val (.long dl), .second, .unset, .unset, .unset, .unset, .unset, .unset, .unset, .unset, .unset] []))
                refine o_lload hst X_8.here hx (hb hby at_233) (pc' := 235) rfl rfl ?_
                refine o_lload hst X_8.here hx (hb hby at_235) (pc' := 237) rfl rfl ?_
                obtain ⟨_, _, ⟨T_32, L_32, k_32, n_32⟩, -, X_32, ⟨Lc_32, hQ_32, l_32, y_32, z_32⟩, st_32⟩ := Jvm.LawKit.callS X_8 hx (y := (⟨x.cls, "shift", "(JJ)J"⟩ : MethodName)) hown (mvT hZ (own_w0 hw)) (mvT hZ (own_w1 hw)) (mvT hZ (own_w2 hw)) (mvT hZ (own_w3 hw)) (by decide) (backOf (W := 0) (rmsh lL Z a0 hw [] xa dl  h0 n0 Z0) hZ (own_w3 hw) (own_w2 hw) (by decide) (by decide)) (g := (mkF mI 237 #[.val (.int sh), .val (.long xa), .second, .val (.long xb), .second, .val (.long xc), .second, .val (.int xq), .val (.long xr), .second, .val (.int pA), .val (.int pB), .val (.int pC), .val (.long xa), .second, .val (.long gA), .second, .val (.long lB), .second, .val (.long gB), .second, .val (.long lC), .second, .val (.long gC), .second, .val (.int q), .val (.int pk), .val (.long dl), .second, .unset, .unset, .unset, .unset, .unset, .unset, .unset, .unset, .unset] [(.long dl), (.long xa)])) rfl (by rw [hml]; rfl) (argsL := [(.long xa), (.long dl)]) (rest := []) (lenOf pd_12 rfl) rfl (by show 2 * 0 + _ ≤ _; exact Nat.le_of_eq rfl) (hb hby at_237) (fun _ _ => ⟨rfl, eh_8, (by decide : 0 + 0 ≤ _), (by decide : 0 + 0 ≤ _)⟩)
                dsimp only [Pt.U, Pt.locs, Pt.cells, Pt.slots] at X_32 l_32 y_32 z_32 st_32 hQ_32
                subst l_32 y_32 z_32
                obtain ⟨rfl, N_32q, eh_32⟩ := hQ_32
                have N_32 := Fr.app N_8 N_32q
                refine hst (fun _ kt => st_32 _ kt) ?_
                show G (T_32.setTop (mkF mI 240 #[.val (.int sh), .val (.long xa), .second, .val (.long xb), .second, .val (.long xc), .second, .val (.int xq), .val (.long xr), .second, .val (.int pA), .val (.int pB), .val (.int pC), .val (.long xa), .second, .val (.long gA), .second, .val (.long lB), .second, .val (.long gB), .second, .val (.long lC), .second, .val (.long gC), .second, .val (.int q), .val (.int pk), .val (.long dl), .second, .unset, .unset, .unset, .unset, .unset, .unset, .unset, .unset, .unset] [(.long (own_sh xa dl))]))
                refine o_lstore hst X_32.here hx (hb hby at_240) (pc' := 242) rfl (Lt := #[.val (.int sh), .val (.long xa), .second, .val (.long xb), .second, .val (.long xc), .second, .val (.int xq), .val (.long xr), .second, .val (.int pA), .val (.int pB), .val (.int pC), .val (.long xa), .second, .val (.long gA), .second, .val (.long lB), .second, .val (.long gB), .second, .val (.long lC), .second, .val (.long gC), .second, .val (.int q), .val (.int pk), .val (.long dl), .second, .val (.long (own_sh xa dl)), .second, .unset, .unset, .unset, .unset, .unset, .unset, .unset]) rfl ?_
                refine o_goto hst X_32.here hx (hb hby at_242) (by decide) (pc' := 285) (by decide) ?_
                exact J285 _ T_32 _ X_32 eh_32 N_32
              ·
                refine hst (fun _ kt => XS.ifYes X_8.here hx rfl (pc0 := 230) (pc' := 245) rfl (hb hby at_230) rfl ((if0 _ _).trans (feq hk0).2) (by decide) (by decide) kt) ?_
                show G (T_8.setTop (mkF mI 245 #[.val (.int sh), .val (.long xa), .second, .val (.long xb), .second, .val (.long xc), .second, .val (.int xq), .val (.long xr), .second, .val (.int pA), .val (.int pB), .val (.int pC), .val (.long xa), .second, .val (.long gA), .second, .val (.long lB), .second, .val (.long gB), .second, .val (.long lC), .second, .val (.long gC), .second, .val (.int q), .val (.int pk), .val (.long dl), .second, .unset, .unset, .unset, .unset, .unset, .unset, .unset, .unset, .unset] []))
                refine o_iload hst X_8.here hx (hb hby at_245) (pc' := 247) rfl rfl ?_
                refine o_iconst hst X_8.here hx (hb hby at_247) (pc' := 248) rfl (z := (1 : Int32)) rfl ?_
                by_cases hk1 : pk = (1 : Int32)
                ·
                  refine hst (fun _ kt => XS.icmpNo X_8.here hx rfl (hb hby at_248) rfl (teq hk1).2 kt) ?_
                  show G (T_8.setTop (mkF mI 251 #[.val (.int sh), .val (.long xa), .second, .val (.long xb), .second, .val (.long xc), .second, .val (.int xq), .val (.long xr), .second, .val (.int pA), .val (.int pB), .val (.int pC), .val (.long xa), .second, .val (.long gA), .second, .val (.long lB), .second, .val (.long gB), .second, .val (.long lC), .second, .val (.long gC), .second, .val (.int q), .val (.int pk), .val (.long dl), .second, .unset, .unset, .unset, .unset, .unset, .unset, .unset, .unset, .unset] []))
                  refine o_lload hst X_8.here hx (hb hby at_251) (pc' := 253) rfl rfl ?_
                  refine o_lload hst X_8.here hx (hb hby at_253) (pc' := 255) rfl rfl ?_
                  obtain ⟨_, _, ⟨T_33, L_33, k_33, n_33⟩, -, X_33, ⟨Lc_33, hQ_33, l_33, y_33, z_33⟩, st_33⟩ := Jvm.LawKit.callS X_8 hx (y := (⟨x.cls, "shift", "(JJ)J"⟩ : MethodName)) hown (mvT hZ (own_w0 hw)) (mvT hZ (own_w1 hw)) (mvT hZ (own_w2 hw)) (mvT hZ (own_w3 hw)) (by decide) (backOf (W := 0) (rmsh lL Z a0 hw [] lB dl  h0 n0 Z0) hZ (own_w3 hw) (own_w2 hw) (by decide) (by decide)) (g := (mkF mI 255 #[.val (.int sh), .val (.long xa), .second, .val (.long xb), .second, .val (.long xc), .second, .val (.int xq), .val (.long xr), .second, .val (.int pA), .val (.int pB), .val (.int pC), .val (.long xa), .second, .val (.long gA), .second, .val (.long lB), .second, .val (.long gB), .second, .val (.long lC), .second, .val (.long gC), .second, .val (.int q), .val (.int pk), .val (.long dl), .second, .unset, .unset, .unset, .unset, .unset, .unset, .unset, .unset, .unset] [(.long dl), (.long lB)])) rfl (by rw [hml]; rfl) (argsL := [(.long lB), (.long dl)]) (rest := []) (lenOf pd_12 rfl) rfl (by show 2 * 0 + _ ≤ _; exact Nat.le_of_eq rfl) (hb hby at_255) (fun _ _ => ⟨rfl, eh_8, (by decide : 0 + 0 ≤ _), (by decide : 0 + 0 ≤ _)⟩)
                  dsimp only [Pt.U, Pt.locs, Pt.cells, Pt.slots] at X_33 l_33 y_33 z_33 st_33 hQ_33
                  subst l_33 y_33 z_33
                  obtain ⟨rfl, N_33q, eh_33⟩ := hQ_33
                  have N_33 := Fr.app N_8 N_33q
                  refine hst (fun _ kt => st_33 _ kt) ?_
                  show G (T_33.setTop (mkF mI 258 #[.val (.int sh), .val (.long xa), .second, .val (.long xb), .second, .val (.long xc), .second, .val (.int xq), .val (.long xr), .second, .val (.int pA), .val (.int pB), .val (.int pC), .val (.long xa), .second, .val (.long gA), .second, .val (.long lB), .second, .val (.long gB), .second, .val (.long lC), .second, .val (.long gC), .second, .val (.int q), .val (.int pk), .val (.long dl), .second, .unset, .unset, .unset, .unset, .unset, .unset, .unset, .unset, .unset] [(.long (own_sh lB dl))]))
                  refine o_lstore hst X_33.here hx (hb hby at_258) (pc' := 260) rfl (Lt := #[.val (.int sh), .val (.long xa), .second, .val (.long xb), .second, .val (.long xc), .second, .val (.int xq), .val (.long xr), .second, .val (.int pA), .val (.int pB), .val (.int pC), .val (.long xa), .second, .val (.long gA), .second, .val (.long lB), .second, .val (.long gB), .second, .val (.long lC), .second, .val (.long gC), .second, .val (.int q), .val (.int pk), .val (.long dl), .second, .val (.long (own_sh lB dl)), .second, .unset, .unset, .unset, .unset, .unset, .unset, .unset]) rfl ?_
                  refine o_goto hst X_33.here hx (hb hby at_260) (by decide) (pc' := 285) (by decide) ?_
                  exact J285 _ T_33 _ X_33 eh_33 N_33
                ·
                  refine hst (fun _ kt => XS.icmpYes X_8.here hx rfl (pc0 := 248) (pc' := 263) rfl (hb hby at_248) rfl (feq hk1).2 (by decide) (by decide) kt) ?_
                  show G (T_8.setTop (mkF mI 263 #[.val (.int sh), .val (.long xa), .second, .val (.long xb), .second, .val (.long xc), .second, .val (.int xq), .val (.long xr), .second, .val (.int pA), .val (.int pB), .val (.int pC), .val (.long xa), .second, .val (.long gA), .second, .val (.long lB), .second, .val (.long gB), .second, .val (.long lC), .second, .val (.long gC), .second, .val (.int q), .val (.int pk), .val (.long dl), .second, .unset, .unset, .unset, .unset, .unset, .unset, .unset, .unset, .unset] []))
                  refine o_iload hst X_8.here hx (hb hby at_263) (pc' := 265) rfl rfl ?_
                  refine o_iconst hst X_8.here hx (hb hby at_265) (pc' := 266) rfl (z := (2 : Int32)) rfl ?_
                  by_cases hk2 : pk = (2 : Int32)
                  ·
                    refine hst (fun _ kt => XS.icmpNo X_8.here hx rfl (hb hby at_266) rfl (teq hk2).2 kt) ?_
                    show G (T_8.setTop (mkF mI 269 #[.val (.int sh), .val (.long xa), .second, .val (.long xb), .second, .val (.long xc), .second, .val (.int xq), .val (.long xr), .second, .val (.int pA), .val (.int pB), .val (.int pC), .val (.long xa), .second, .val (.long gA), .second, .val (.long lB), .second, .val (.long gB), .second, .val (.long lC), .second, .val (.long gC), .second, .val (.int q), .val (.int pk), .val (.long dl), .second, .unset, .unset, .unset, .unset, .unset, .unset, .unset, .unset, .unset] []))
                    refine o_lload hst X_8.here hx (hb hby at_269) (pc' := 271) rfl rfl ?_
                    refine o_lload hst X_8.here hx (hb hby at_271) (pc' := 273) rfl rfl ?_
                    obtain ⟨_, _, ⟨T_34, L_34, k_34, n_34⟩, -, X_34, ⟨Lc_34, hQ_34, l_34, y_34, z_34⟩, st_34⟩ := Jvm.LawKit.callS X_8 hx (y := (⟨x.cls, "shift", "(JJ)J"⟩ : MethodName)) hown (mvT hZ (own_w0 hw)) (mvT hZ (own_w1 hw)) (mvT hZ (own_w2 hw)) (mvT hZ (own_w3 hw)) (by decide) (backOf (W := 0) (rmsh lL Z a0 hw [] lC dl  h0 n0 Z0) hZ (own_w3 hw) (own_w2 hw) (by decide) (by decide)) (g := (mkF mI 273 #[.val (.int sh), .val (.long xa), .second, .val (.long xb), .second, .val (.long xc), .second, .val (.int xq), .val (.long xr), .second, .val (.int pA), .val (.int pB), .val (.int pC), .val (.long xa), .second, .val (.long gA), .second, .val (.long lB), .second, .val (.long gB), .second, .val (.long lC), .second, .val (.long gC), .second, .val (.int q), .val (.int pk), .val (.long dl), .second, .unset, .unset, .unset, .unset, .unset, .unset, .unset, .unset, .unset] [(.long dl), (.long lC)])) rfl (by rw [hml]; rfl) (argsL := [(.long lC), (.long dl)]) (rest := []) (lenOf pd_12 rfl) rfl (by show 2 * 0 + _ ≤ _; exact Nat.le_of_eq rfl) (hb hby at_273) (fun _ _ => ⟨rfl, eh_8, (by decide : 0 + 0 ≤ _), (by decide : 0 + 0 ≤ _)⟩)
                    dsimp only [Pt.U, Pt.locs, Pt.cells, Pt.slots] at X_34 l_34 y_34 z_34 st_34 hQ_34
                    subst l_34 y_34 z_34
                    obtain ⟨rfl, N_34q, eh_34⟩ := hQ_34
                    have N_34 := Fr.app N_8 N_34q
                    refine hst (fun _ kt => st_34 _ kt) ?_
                    show G (T_34.setTop (mkF mI 276 #[.val (.int sh), .val (.long xa), .second, .val (.long xb), .second, .val (.long xc), .second, .val (.int xq), .val (.long xr), .second, .val (.int pA), .val (.int pB), .val (.int pC), .val (.long xa), .second, .val (.long gA), .second, .val (.long lB), .second, .val (.long gB), .second, .val (.long lC), .second, .val (.long gC), .second, .val (.int q), .val (.int pk), .val (.long dl), .second, .unset, .unset, .unset, .unset, .unset, .unset, .unset, .unset, .unset] [(.long (own_sh lC dl))]))
                    refine o_lstore hst X_34.here hx (hb hby at_276) (pc' := 278) rfl (Lt := #[.val (.int sh), .val (.long xa), .second, .val (.long xb), .second, .val (.long xc), .second, .val (.int xq), .val (.long xr), .second, .val (.int pA), .val (.int pB), .val (.int pC), .val (.long xa), .second, .val (.long gA), .second, .val (.long lB), .second, .val (.long gB), .second, .val (.long lC), .second, .val (.long gC), .second, .val (.int q), .val (.int pk), .val (.long dl), .second, .val (.long (own_sh lC dl)), .second, .unset, .unset, .unset, .unset, .unset, .unset, .unset]) rfl ?_
                    refine o_goto hst X_34.here hx (hb hby at_278) (by decide) (pc' := 285) (by decide) ?_
                    exact J285 _ T_34 _ X_34 eh_34 N_34
                  ·
                    refine hst (fun _ kt => XS.icmpYes X_8.here hx rfl (pc0 := 266) (pc' := 281) rfl (hb hby at_266) rfl (feq hk2).2 (by decide) (by decide) kt) ?_
                    show G (T_8.setTop (mkF mI 281 #[.val (.int sh), .val (.long xa), .second, .val (.long xb), .second, .val (.long xc), .second, .val (.int xq), .val (.long xr), .second, .val (.int pA), .val (.int pB), .val (.int pC), .val (.long xa), .second, .val (.long gA), .second, .val (.long lB), .second, .val (.long gB), .second, .val (.long lC), .second, .val (.long gC), .second, .val (.int q), .val (.int pk), .val (.long dl), .second, .unset, .unset, .unset, .unset, .unset, .unset, .unset, .unset, .unset] []))
                    refine o_lload hst X_8.here hx (hb hby at_281) (pc' := 283) rfl rfl ?_
                    refine o_lstore hst X_8.here hx (hb hby at_283) (pc' := 285) rfl (Lt := #[.val (.int sh), .val (.long xa), .second, .val (.long xb), .second, .val (.long xc), .second, .val (.int xq), .val (.long xr), .second, .val (.int pA), .val (.int pB), .val (.int pC), .val (.long xa), .second, .val (.long gA), .second, .val (.long lB), .second, .val (.long gB), .second, .val (.long lC), .second, .val (.long gC), .second, .val (.int q), .val (.int pk), .val (.long dl), .second, .val (.long xr), .second, .unset, .unset, .unset, .unset, .unset, .unset, .unset]) rfl ?_
                    exact J285 _ T_8 _ X_8 eh_8 N_8
            by_cases hq0 : (xq &&& (48 : Int32)) = (48 : Int32)
            ·
              refine hst (fun _ kt => XS.icmpNo X_8.here hx rfl (hb hby at_190) rfl (teq hq0).2 kt) ?_
              show G (T_8.setTop (mkF mI 193 #[.val (.int sh), .val (.long xa), .second, .val (.long xb), .second, .val (.long xc), .second, .val (.int xq), .val (.long xr), .second, .val (.int pA), .val (.int pB), .val (.int pC), .val (.long xa), .second, .val (.long gA), .second, .val (.long lB), .second, .val (.long gB), .second, .val (.long lC), .second, .val (.long gC), .second, .unset, .unset, .unset, .unset, .unset, .unset, .unset, .unset, .unset, .unset, .unset, .unset, .unset] []))
              refine o_iload hst X_8.here hx (hb hby at_193) (pc' := 195) rfl rfl ?_
              refine o_goto hst X_8.here hx (hb hby at_195) (by decide) (pc' := 204) (by decide) ?_
              exact J204 _
            ·
              refine hst (fun _ kt => XS.icmpYes X_8.here hx rfl (pc0 := 190) (pc' := 198) rfl (hb hby at_190) rfl (feq hq0).2 (by decide) (by decide) kt) ?_
              show G (T_8.setTop (mkF mI 198 #[.val (.int sh), .val (.long xa), .second, .val (.long xb), .second, .val (.long xc), .second, .val (.int xq), .val (.long xr), .second, .val (.int pA), .val (.int pB), .val (.int pC), .val (.long xa), .second, .val (.long gA), .second, .val (.long lB), .second, .val (.long gB), .second, .val (.long lC), .second, .val (.long gC), .second, .unset, .unset, .unset, .unset, .unset, .unset, .unset, .unset, .unset, .unset, .unset, .unset, .unset] []))
              refine o_iconst hst X_8.here hx (hb hby at_198) (pc' := 199) rfl (z := (1 : Int32)) rfl ?_
              refine o_iload hst X_8.here hx (hb hby at_199) (pc' := 201) rfl rfl ?_
              refine o_iconst hst X_8.here hx (hb hby at_201) (pc' := 202) rfl (z := (3 : Int32)) rfl ?_
              refine o_iand hst X_8.here hx (hb hby at_202) (pc' := 203) rfl ?_
              refine o_iadd hst X_8.here hx (hb hby at_203) (pc' := 204) rfl ?_
              exact J204 _
          ·
            refine hst (fun _ kt => XS.ifNo X_8.here hx rfl (hb hby at_178) rfl ((if0 _ _).trans (feq hBC).1) kt) ?_
            show G (T_8.setTop (mkF mI 181 #[.val (.int sh), .val (.long xa), .second, .val (.long xb), .second, .val (.long xc), .second, .val (.int xq), .val (.long xr), .second, .val (.int pA), .val (.int pB), .val (.int pC), .val (.long xa), .second, .val (.long gA), .second, .val (.long lB), .second, .val (.long gB), .second, .val (.long lC), .second, .val (.long gC), .second, .unset, .unset, .unset, .unset, .unset, .unset, .unset, .unset, .unset, .unset, .unset, .unset, .unset] []))
            refine o_iconst hst X_8.here hx (hb hby at_181) (pc' := 182) rfl (z := (1 : Int32)) rfl ?_
            exact hend (own_goRet X_8 hx Bd.returns rfl (Or.inl ⟨rfl, by simp, _, rfl⟩) (hb hby at_182) Bd.notSynchronized (by rw [eh_8]; exact ⟨rfl, N_8⟩) (by decide) (by decide))
        ·
          refine hst (fun _ kt => XS.ifYes X_7.here hx rfl (pc0 := 160) (pc' := 181) rfl (hb hby at_160) rfl ((if0 _ _).trans (feq hAC).2) (by decide) (by decide) kt) ?_
          show G (T_7.setTop (mkF mI 181 #[.val (.int sh), .val (.long xa), .second, .val (.long xb), .second, .val (.long xc), .second, .val (.int xq), .val (.long xr), .second, .val (.int pA), .val (.int pB), .val (.int pC), .val (.long xa), .second, .val (.long gA), .second, .val (.long lB), .second, .val (.long gB), .second, .val (.long lC), .second, .val (.long gC), .second, .unset, .unset, .unset, .unset, .unset, .unset, .unset, .unset, .unset, .unset, .unset, .unset, .unset] []))
          refine o_iconst hst X_7.here hx (hb hby at_181) (pc' := 182) rfl (z := (1 : Int32)) rfl ?_
          exact hend (own_goRet X_7 hx Bd.returns rfl (Or.inl ⟨rfl, by simp, _, rfl⟩) (hb hby at_182) Bd.notSynchronized (by rw [eh_7]; exact ⟨rfl, N_7⟩) (by decide) (by decide))
      ·
        refine hst (fun _ kt => XS.ifYes X_6.here hx rfl (pc0 := 142) (pc' := 181) rfl (hb hby at_142) rfl ((if0 _ _).trans (feq hAB).2) (by decide) (by decide) kt) ?_
        show G (T_6.setTop (mkF mI 181 #[.val (.int sh), .val (.long xa), .second, .val (.long xb), .second, .val (.long xc), .second, .val (.int xq), .val (.long xr), .second, .val (.int pA), .val (.int pB), .val (.int pC), .val (.long xa), .second, .val (.long gA), .second, .val (.long lB), .second, .val (.long gB), .second, .val (.long lC), .second, .val (.long gC), .second, .unset, .unset, .unset, .unset, .unset, .unset, .unset, .unset, .unset, .unset, .unset, .unset, .unset] []))
        refine o_iconst hst X_6.here hx (hb hby at_181) (pc' := 182) rfl (z := (1 : Int32)) rfl ?_
        exact hend (own_goRet X_6 hx Bd.returns rfl (Or.inl ⟨rfl, by simp, _, rfl⟩) (hb hby at_182) Bd.notSynchronized (by rw [eh_6]; exact ⟨rfl, N_6⟩) (by decide) (by decide))
    by_cases hb108 : (sh &&& (65536 : Int32)) = (0 : Int32)
    ·
      refine hst (fun _ kt => XS.ifNo X_3.here hx rfl (hb hby at_89) rfl ((if0 _ _).trans (teq hb108).2) kt) ?_
      show G (T_3.setTop (mkF mI 92 #[.val (.int sh), .val (.long xa), .second, .val (.long xb), .second, .val (.long xc), .second, .val (.int xq), .val (.long xr), .second, .val (.int pA), .val (.int pB), .val (.int pC), .val (.long xa), .second, .val (.long gA), .second, .val (.long lB), .second, .val (.long gB), .second, .unset, .unset, .unset, .unset, .unset, .unset, .unset, .unset, .unset, .unset, .unset, .unset, .unset, .unset, .unset, .unset, .unset] []))
      refine o_lload hst X_3.here hx (hb hby at_92) (pc' := 94) rfl rfl ?_
      refine o_lload hst X_3.here hx (hb hby at_94) (pc' := 96) rfl rfl ?_
      refine hst (X_3.ldc2Long hx hown (mvT hZ (own_w6 hw)) (g := (mkF mI 96 #[.val (.int sh), .val (.long xa), .second, .val (.long xb), .second, .val (.long xc), .second, .val (.int xq), .val (.long xr), .second, .val (.int pA), .val (.int pB), .val (.int pC), .val (.long xa), .second, .val (.long gA), .second, .val (.long lB), .second, .val (.long gB), .second, .unset, .unset, .unset, .unset, .unset, .unset, .unset, .unset, .unset, .unset, .unset, .unset, .unset, .unset, .unset, .unset, .unset] [(.long xc), (.long gB)])) rfl (hb hby at_96)) ?_
      show G (T_3.setTop (mkF mI 99 #[.val (.int sh), .val (.long xa), .second, .val (.long xb), .second, .val (.long xc), .second, .val (.int xq), .val (.long xr), .second, .val (.int pA), .val (.int pB), .val (.int pC), .val (.long xa), .second, .val (.long gA), .second, .val (.long lB), .second, .val (.long gB), .second, .unset, .unset, .unset, .unset, .unset, .unset, .unset, .unset, .unset, .unset, .unset, .unset, .unset, .unset, .unset, .unset, .unset] [(.long (3 : Int64)), (.long xc), (.long gB)]))
      refine o_land hst X_3.here hx (hb hby at_99) (pc' := 100) rfl ?_
      obtain ⟨_, _, ⟨T_35, L_35, k_35, n_35⟩, -, X_35, ⟨Lc_35, hQ_35, l_35, y_35, z_35⟩, st_35⟩ := Jvm.LawKit.callS X_3 hx (y := (⟨x.cls, "shift", "(JJ)J"⟩ : MethodName)) hown (mvT hZ (own_w0 hw)) (mvT hZ (own_w1 hw)) (mvT hZ (own_w2 hw)) (mvT hZ (own_w3 hw)) (by decide) (backOf (W := 0) (rmsh lL Z a0 hw [] gB (xc &&& (3 : Int64))  h0 n0 Z0) hZ (own_w3 hw) (own_w2 hw) (by decide) (by decide)) (g := (mkF mI 100 #[.val (.int sh), .val (.long xa), .second, .val (.long xb), .second, .val (.long xc), .second, .val (.int xq), .val (.long xr), .second, .val (.int pA), .val (.int pB), .val (.int pC), .val (.long xa), .second, .val (.long gA), .second, .val (.long lB), .second, .val (.long gB), .second, .unset, .unset, .unset, .unset, .unset, .unset, .unset, .unset, .unset, .unset, .unset, .unset, .unset, .unset, .unset, .unset, .unset] [(.long (xc &&& (3 : Int64))), (.long gB)])) rfl (by rw [hml]; rfl) (argsL := [(.long gB), (.long (xc &&& (3 : Int64)))]) (rest := []) (lenOf pd_12 rfl) rfl (by show 2 * 0 + _ ≤ _; exact Nat.le_of_eq rfl) (hb hby at_100) (fun _ _ => ⟨rfl, eh_3, (by decide : 0 + 0 ≤ _), (by decide : 0 + 0 ≤ _)⟩)
      dsimp only [Pt.U, Pt.locs, Pt.cells, Pt.slots] at X_35 l_35 y_35 z_35 st_35 hQ_35
      subst l_35 y_35 z_35
      obtain ⟨rfl, N_35q, eh_35⟩ := hQ_35
      have N_35 := Fr.app N_3 N_35q
      refine hst (fun _ kt => st_35 _ kt) ?_
      show G (T_35.setTop (mkF mI 103 #[.val (.int sh), .val (.long xa), .second, .val (.long xb), .second, .val (.long xc), .second, .val (.int xq), .val (.long xr), .second, .val (.int pA), .val (.int pB), .val (.int pC), .val (.long xa), .second, .val (.long gA), .second, .val (.long lB), .second, .val (.long gB), .second, .unset, .unset, .unset, .unset, .unset, .unset, .unset, .unset, .unset, .unset, .unset, .unset, .unset, .unset, .unset, .unset, .unset] [(.long (own_sh gB (xc &&& (3 : Int64))))]))
      refine o_goto hst X_35.here hx (hb hby at_103) (by decide) (pc' := 108) (by decide) ?_
      exact J108 _ T_35 _ X_35 eh_35 N_35
    ·
      refine hst (fun _ kt => XS.ifYes X_3.here hx rfl (pc0 := 89) (pc' := 106) rfl (hb hby at_89) rfl ((if0 _ _).trans (feq hb108).2) (by decide) (by decide) kt) ?_
      show G (T_3.setTop (mkF mI 106 #[.val (.int sh), .val (.long xa), .second, .val (.long xb), .second, .val (.long xc), .second, .val (.int xq), .val (.long xr), .second, .val (.int pA), .val (.int pB), .val (.int pC), .val (.long xa), .second, .val (.long gA), .second, .val (.long lB), .second, .val (.long gB), .second, .unset, .unset, .unset, .unset, .unset, .unset, .unset, .unset, .unset, .unset, .unset, .unset, .unset, .unset, .unset, .unset, .unset] []))
      refine o_lload hst X_3.here hx (hb hby at_106) (pc' := 108) rfl rfl ?_
      exact J108 _ T_3 _ X_3 eh_3 N_3
  by_cases hb66 : (sh &&& (32768 : Int32)) = (0 : Int32)
  ·
    refine hst (fun _ kt => XS.ifNo X_1.here hx rfl (hb hby at_49) rfl ((if0 _ _).trans (teq hb66).2) kt) ?_
    show G (T_1.setTop (mkF mI 52 #[.val (.int sh), .val (.long xa), .second, .val (.long xb), .second, .val (.long xc), .second, .val (.int xq), .val (.long xr), .second, .val (.int pA), .val (.int pB), .val (.int pC), .val (.long xa), .second, .val (.long gA), .second, .unset, .unset, .unset, .unset, .unset, .unset, .unset, .unset, .unset, .unset, .unset, .unset, .unset, .unset, .unset, .unset, .unset, .unset, .unset, .unset, .unset] []))
    refine o_lload hst X_1.here hx (hb hby at_52) (pc' := 54) rfl rfl ?_
    refine o_lloadN hst X_1.here hx (hb hby at_54) (pc' := 55) rfl rfl ?_
    refine hst (X_1.ldc2Long hx hown (mvT hZ (own_w6 hw)) (g := (mkF mI 55 #[.val (.int sh), .val (.long xa), .second, .val (.long xb), .second, .val (.long xc), .second, .val (.int xq), .val (.long xr), .second, .val (.int pA), .val (.int pB), .val (.int pC), .val (.long xa), .second, .val (.long gA), .second, .unset, .unset, .unset, .unset, .unset, .unset, .unset, .unset, .unset, .unset, .unset, .unset, .unset, .unset, .unset, .unset, .unset, .unset, .unset, .unset, .unset] [(.long xb), (.long gA)])) rfl (hb hby at_55)) ?_
    show G (T_1.setTop (mkF mI 58 #[.val (.int sh), .val (.long xa), .second, .val (.long xb), .second, .val (.long xc), .second, .val (.int xq), .val (.long xr), .second, .val (.int pA), .val (.int pB), .val (.int pC), .val (.long xa), .second, .val (.long gA), .second, .unset, .unset, .unset, .unset, .unset, .unset, .unset, .unset, .unset, .unset, .unset, .unset, .unset, .unset, .unset, .unset, .unset, .unset, .unset, .unset, .unset] [(.long (3 : Int64)), (.long xb), (.long gA)]))
    refine o_land hst X_1.here hx (hb hby at_58) (pc' := 59) rfl ?_
    obtain ⟨_, _, ⟨T_36, L_36, k_36, n_36⟩, -, X_36, ⟨Lc_36, hQ_36, l_36, y_36, z_36⟩, st_36⟩ := Jvm.LawKit.callS X_1 hx (y := (⟨x.cls, "shift", "(JJ)J"⟩ : MethodName)) hown (mvT hZ (own_w0 hw)) (mvT hZ (own_w1 hw)) (mvT hZ (own_w2 hw)) (mvT hZ (own_w3 hw)) (by decide) (backOf (W := 0) (rmsh lL Z a0 hw [] gA (xb &&& (3 : Int64))  h0 n0 Z0) hZ (own_w3 hw) (own_w2 hw) (by decide) (by decide)) (g := (mkF mI 59 #[.val (.int sh), .val (.long xa), .second, .val (.long xb), .second, .val (.long xc), .second, .val (.int xq), .val (.long xr), .second, .val (.int pA), .val (.int pB), .val (.int pC), .val (.long xa), .second, .val (.long gA), .second, .unset, .unset, .unset, .unset, .unset, .unset, .unset, .unset, .unset, .unset, .unset, .unset, .unset, .unset, .unset, .unset, .unset, .unset, .unset, .unset, .unset] [(.long (xb &&& (3 : Int64))), (.long gA)])) rfl (by rw [hml]; rfl) (argsL := [(.long gA), (.long (xb &&& (3 : Int64)))]) (rest := []) (lenOf pd_12 rfl) rfl (by show 2 * 0 + _ ≤ _; exact Nat.le_of_eq rfl) (hb hby at_59) (fun _ _ => ⟨rfl, eh_1, (by decide : 0 + 0 ≤ _), (by decide : 0 + 0 ≤ _)⟩)
    dsimp only [Pt.U, Pt.locs, Pt.cells, Pt.slots] at X_36 l_36 y_36 z_36 st_36 hQ_36
    subst l_36 y_36 z_36
    obtain ⟨rfl, N_36q, eh_36⟩ := hQ_36
    have N_36 := Fr.app N_1 N_36q
    refine hst (fun _ kt => st_36 _ kt) ?_
    show G (T_36.setTop (mkF mI 62 #[.val (.int sh), .val (.long xa), .second, .val (.long xb), .second, .val (.long xc), .second, .val (.int xq), .val (.long xr), .second, .val (.int pA), .val (.int pB), .val (.int pC), .val (.long xa), .second, .val (.long gA), .second, .unset, .unset, .unset, .unset, .unset, .unset, .unset, .unset, .unset, .unset, .unset, .unset, .unset, .unset, .unset, .unset, .unset, .unset, .unset, .unset, .unset] [(.long (own_sh gA (xb &&& (3 : Int64))))]))
    refine o_goto hst X_36.here hx (hb hby at_62) (by decide) (pc' := 66) (by decide) ?_
    exact J66 _ T_36 _ X_36 eh_36 N_36
  ·
    refine hst (fun _ kt => XS.ifYes X_1.here hx rfl (pc0 := 49) (pc' := 65) rfl (hb hby at_49) rfl ((if0 _ _).trans (feq hb66).2) (by decide) (by decide) kt) ?_
    show G (T_1.setTop (mkF mI 65 #[.val (.int sh), .val (.long xa), .second, .val (.long xb), .second, .val (.long xc), .second, .val (.int xq), .val (.long xr), .second, .val (.int pA), .val (.int pB), .val (.int pC), .val (.long xa), .second, .val (.long gA), .second, .unset, .unset, .unset, .unset, .unset, .unset, .unset, .unset, .unset, .unset, .unset, .unset, .unset, .unset, .unset, .unset, .unset, .unset, .unset, .unset, .unset] []))
    refine o_lloadN hst X_1.here hx (hb hby at_65) (pc' := 66) rfl rfl ?_
    exact J66 _ T_1 _ X_1 eh_1 N_1
set_option maxRecDepth 65536 in
set_option maxHeartbeats 40000000 in
theorem comes_1 {Post : Tables → Env → Array Value → State → Outcome → State → Prop} (hpost : ∀ tb e args s v u, (limb_1_1.after args s (.returned v) u = true ∧ limb_1_2.after args s (.returned v) u = true ∧ True) → FrameEnd s (.returned v) u (Jvm.fieldLocs frame_1_writes args s ++ Jvm.arrayLocs frame_1_arrays args s ++ Jvm.staticLocs frame_1_statics s) 40 320 → Post tb e args s (.returned v) u) :
    ArmFor flags0 classFile x code maxLocals ret World_1 tables_1 room_1 Calls_1 rest_1 Pre_1 Post := by
  intro l hfl _ _ p e ha hc hk s m args below hf hA hF happ hP
  obtain ⟨hcalls, hrest, hpre⟩ := hP
  obtain ⟨-, -, -, hnamed, -, -, -, hat⟩ := (Spec.applies_iff hf).mp happ
  obtain ⟨hg, hn⟩ := and_e (Cond.before_iff.mp (show (Jvm.Cond.and given_1 narrow_1).before args s = true from hpre))
  obtain ⟨gc, g0⟩ := and_e hg
  obtain ⟨ga0, g1⟩ := and_e g0
  obtain ⟨ga1, g2⟩ := and_e g1
  obtain ⟨ga2, g3⟩ := and_e g2
  obtain ⟨ga3, g4⟩ := and_e g3
  obtain ⟨ga4, g5⟩ := and_e g4
  obtain ⟨w0, w1, w2, w3, w4, w5, rfl⟩ : ∃ w0 w1 w2 w3 w4 w5 : Value, args = #[w0, w1, w2, w3, w4, w5] := by
    have hs : args.size = 6 := by simpa [Cond.value, given_1] using gc
    obtain ⟨L⟩ := args
    match L, hs with
    | [w0, w1, w2, w3, w4, w5], _ => exact ⟨w0, w1, w2, w3, w4, w5, rfl⟩
  have hw := fun d (hd : d ∈ tables_1) => atoms_spec (ws := Jvm.Cond.code x code maxLocals ret :: tables_1) hat d (List.mem_cons_of_mem _ hd)
  have hfit : Fit s := fun {y c} hc i hi => by
    obtain ⟨ha, rfl⟩ := Array.getElem?_eq_some_iff.mp hc
    have q := List.all_eq_true.mp ((Array.all_eq_true_iff_forall_mem.mp hF) _ (Array.getElem_mem ha)) i (List.mem_range.mpr hi)
    simpa [Array.getElem?_eq_getElem hi] using q
  obtain ⟨i0, ei0⟩ := is_v ga0
  obtain rfl : w0 = (.int i0) := Option.some.inj ei0
  obtain ⟨i1, ei1⟩ := isL_v ga1
  obtain rfl : w1 = (.long i1) := Option.some.inj ei1
  obtain ⟨i2, ei2⟩ := isL_v ga2
  obtain rfl : w2 = (.long i2) := Option.some.inj ei2
  obtain ⟨i3, ei3⟩ := isL_v ga3
  obtain rfl : w3 = (.long i3) := Option.some.inj ei3
  obtain ⟨i4, ei4⟩ := is_v ga4
  obtain rfl : w4 = (.int i4) := Option.some.inj ei4
  obtain ⟨i5, ei5⟩ := isL_v g5
  obtain rfl : w5 = (.long i5) := Option.some.inj ei5
  obtain ⟨n1, m1⟩ := and_e hn
  obtain ⟨n2, m2⟩ := and_e m1
  obtain ⟨n3, m3⟩ := and_e m2
  obtain ⟨n4, n5⟩ := and_e m3
  obtain ⟨ns, ev1⟩ := arr_v n1
  obtain ⟨nc, ev2⟩ := arr_v n3
  obtain ⟨tk, ev3⟩ := exa_v n5
  have E_tk := Exa.start ev3 n5
  have S_1 := Sta.start ev1 (Or.inr ⟨(own_w15 hw), (own_w74 hw)⟩)
  have S_2 := Sta.start ev2 (Or.inr ⟨(own_w15 hw), (own_w76 hw)⟩)
  have S_3 := Sta.start ev3 (Or.inr ⟨(own_w15 hw), (own_w122 hw)⟩)
  obtain ⟨n, o, h1, h2, h3, _, L, rfl, ⟨rfl, N⟩, hq⟩ := rm0 l s _ hw tables_1 i0 i1 i2 i3 i4 i5 ns nc tk s.heap s.heap.size (Nat.le_refl _) S_1 S_2 S_3 E_tk p e ha hc hk s m _ below hf ((Spec.applies_iff_loose hf).mp happ).1 ⟨rfl, State.Warmed39.refl s, rfl⟩ trivial
  refine ⟨n, _, h1, h2, h3, hpost _ _ _ _ _ _ ⟨Cond.after_iff.mpr rfl, Cond.after_iff.mpr (eq_i res_at (Term.int_eval (1)) rfl), trivial⟩ ⟨hq.1, hq.2.1, (hq.2.2.sift fun y hy => Or.inr (N y hy)).mono (by decide) (by decide)⟩⟩
theorem main_1_1 : Claimed_1_1 := comes_1 fun _ _ _ _ _ _ h hF => ⟨h.1, hF⟩
theorem main_1_2 : Claimed_1_2 := comes_1 fun _ _ _ _ _ _ h hF => ⟨h.2.1, hF⟩
end Jvm.Pilot.@@N@@
namespace Jvm.Pilot.@@N@@
open Jvm Jvm.ClassFile Sem Op Lib Jvm.Free Jvm.Stand Jvm.Pilot.@@N@@.Jvm.D
/-! MADE BY PROGRAM (witnessworld.py) out of the Statement's table words and the real class files: 23 classes; the members and pool entries that the words name. The judged class is class 1, her method 1. -/
namespace start1
open Jvm.ClassFile
def u (s : String) : CpInfo := .utf8 (stringToUtf16 s)
/-- a pool by its gaps: so many unusable entries, then the entry; so many at the end -/
def gap : Nat → List CpInfo → List CpInfo
  | 0, r => r
  | n + 1, r => .unusable :: gap n r
def poolList (es : List (Nat × CpInfo)) (last : Nat) : List CpInfo := es.foldr (fun e r => gap e.1 (e.2 :: r)) (gap last [])
def pool (es : List (Nat × CpInfo)) (last : Nat) : Array CpInfo := ⟨poolList es last⟩
def fileOf (pool : Array CpInfo) (this : Nat) (attrs : Array Attribute := #[]) (ms : Array MethodInfo := #[]) (fl : Nat := 33) (sup : Nat := 0) (ifs : Array Nat := #[]) (fds : Array FieldInfo := #[]) : ClassFile where
  minorVersion := 0
  majorVersion := 65
  constantPool := pool
  accessFlags := fl
  thisClass := this
  superClass := sup
  interfaces := ifs
  fields := fds
  methods := ms
  attributes := attrs
def plain (name : String) (sup : Option ClassId) : Class where
  name := name
  kind := .ordinary
  loader := none
  accessFlags := 33
  super := sup
  interfaces := #[]
  cf := none
  fields := #[]
  methods := #[]
  instanceTypes := #[]
  staticTypes := #[]
  resolved := #[]
  callSites := []
  init := .initialized
  statics := none
  mirror := none

def pool0 : Array CpInfo := pool [(5, u "<init>"), (0, u "()V"), (1, .class_ 10), (1, u "java/lang/Object")] 113

def k0c0 : Code := { maxStack := 0, maxLocals := 1, code := object_method_1_code, exceptionTable := #[], attributes := #[] }
def k0m0 : Method := { name := "<init>", desc := "()V", sig := { parameters := [], returnType := none }, accessFlags := 1, code := some k0c0 }
/-- java/lang/Object -/
def k0 : Class := { plain "java/lang/Object" none with
  accessFlags := 33
  interfaces := #[]
  cf := some (fileOf pool0 8 #[] #[{ accessFlags := 1, nameIndex := 5, descriptorIndex := 6, attributes := #[] }] 33 0 #[] #[])
  fields := #[]
  methods := #[k0m0]
  instanceTypes := #[]
  staticTypes := #[]
  resolved := Array.replicate 124 none
  statics := none }

def pool1 : Array CpInfo := pool [(2, .class_ 4), (1, u "java/lang/Object"), (0, u "<init>"), (0, u "()V"), (0, .methodref 8 9), (0, .class_ 10), (0, .nameAndType 11 12), (0, u "com/example/tierfold/tierfold/tiered/SharedTailsFindPinLaw"), (0, u "shift"), (0, u "(JJ)J"), (0, .integer 32768), (0, .long 3), (1, .integer 65536), (0, .methodref 8 18), (0, .nameAndType 19 20), (0, u "clash"), (0, u "(IJJIJJ)Z"), (0, .class_ 22), (0, u "com/example/tierfold/tierfold/tiered/SharedTails"), (0, .methodref 21 24), (0, .nameAndType 5 25), (0, u "(I)V"), (0, .methodref 21 27), (0, .nameAndType 28 29), (0, u "alone"), (0, u "()Lcom/example/tierfold/tierfold/tiered/TailSet;"), (0, .methodref 21 31), (0, .nameAndType 32 33), (0, u "add"), (0, u "(I[IJJJJLcom/example/tierfold/tierfold/tiered/TailSet;)Lcom/example/tierfold/tierfold/tiered/SharedTail;"), (0, .methodref 8 35), (0, .nameAndType 36 37), (0, u "holds"), (0, u "(IJJIJ)Z"), (0, .methodref 21 39), (0, .nameAndType 40 41), (0, u "find"), (0, u "(IJ)Lcom/example/tierfold/tierfold/tiered/SharedTail;"), (2, .long 9223372036854775807), (1, .long 9223372036854775808), (3, u "law"), (0, u "(IJJJIJ)Z")] 9

def k1m0 : Method := { name := "<init>", desc := "()V", sig := { parameters := [], returnType := none }, accessFlags := 1, code := none }
def k1c1 : Code := { maxStack := 12, maxLocals := 38, code := code, exceptionTable := #[], attributes := #[] }
def k1m1 : Method := { name := "law", desc := "(IJJJIJ)Z", sig := { parameters := [.int, .long, .long, .long, .int, .long], returnType := some .boolean }, accessFlags := 9, code := some k1c1 }
def k1c2 : Code := { maxStack := 6, maxLocals := 4, code := method_3_code, exceptionTable := #[], attributes := #[] }
def k1m2 : Method := { name := "shift", desc := "(JJ)J", sig := { parameters := [.long, .long], returnType := some .long }, accessFlags := 10, code := some k1c2 }
def k1c3 : Code := { maxStack := 4, maxLocals := 10, code := method_4_code, exceptionTable := #[], attributes := #[] }
def k1m3 : Method := { name := "clash", desc := "(IJJIJJ)Z", sig := { parameters := [.int, .long, .long, .int, .long, .long], returnType := some .boolean }, accessFlags := 10, code := some k1c3 }
def k1c4 : Code := { maxStack := 4, maxLocals := 8, code := method_5_code, exceptionTable := #[], attributes := #[] }
def k1m4 : Method := { name := "holds", desc := "(IJJIJ)Z", sig := { parameters := [.int, .long, .long, .int, .long], returnType := some .boolean }, accessFlags := 10, code := some k1c4 }
/-- com/example/tierfold/tierfold/tiered/SharedTailsFindPinLaw -/
def k1 : Class := { plain "com/example/tierfold/tierfold/tiered/SharedTailsFindPinLaw" (some 0) with
  accessFlags := 49
  interfaces := #[]
  cf := some (fileOf pool1 8 #[] #[{ accessFlags := 1, nameIndex := 5, descriptorIndex := 6, attributes := #[] }, { accessFlags := 9, nameIndex := 50, descriptorIndex := 51, attributes := #[] }, { accessFlags := 10, nameIndex := 11, descriptorIndex := 12, attributes := #[] }, { accessFlags := 10, nameIndex := 19, descriptorIndex := 20, attributes := #[] }, { accessFlags := 10, nameIndex := 36, descriptorIndex := 37, attributes := #[] }] 49 2 #[] #[])
  fields := #[]
  methods := #[k1m0, k1m1, k1m2, k1m3, k1m4]
  instanceTypes := #[]
  staticTypes := #[]
  resolved := Array.replicate 61 none
  statics := none }

def pool2 : Array CpInfo := pool [(1, .methodref 2 3), (0, .class_ 4), (0, .nameAndType 5 6), (0, u "java/lang/Object"), (0, u "<init>"), (0, u "()V"), (0, .class_ 8), (0, u "java/util/HashMap"), (0, .methodref 7 3), (0, .fieldref 11 12), (0, .class_ 13), (0, .nameAndType 14 15), (0, u "com/example/tierfold/tierfold/tiered/SharedTails"), (0, u "setsByTakes"), (0, u "Ljava/util/Map;"), (0, .fieldref 11 17), (0, .nameAndType 18 15), (0, u "setsBySize"), (0, .fieldref 11 20), (0, .nameAndType 21 22), (0, u "firsts"), (0, u "[I"), (0, .class_ 24), (0, u "com/example/tierfold/tierfold/tiered/SharedTail$Run"), (0, .fieldref 11 26), (0, .nameAndType 27 28), (0, u "startingAt"), (0, u "[Lcom/example/tierfold/tierfold/tiered/SharedTail$Run;"), (0, .class_ 30), (0, u "com/example/tierfold/tierfold/tiered/ReachTree"), (0, .methodref 29 32), (0, .nameAndType 5 33), (0, u "(I)V"), (0, .fieldref 11 35), (0, .nameAndType 36 37), (0, u "reach"), (0, u "Lcom/example/tierfold/tierfold/tiered/ReachTree;"), (0, .fieldref 11 39), (0, .nameAndType 40 41), (0, u "kept"), (0, u "Lcom/example/tierfold/tierfold/tiered/SharedTail;"), (0, .fieldref 43 44), (0, .class_ 45), (0, .nameAndType 46 47), (0, u "com/example/tierfold/tierfold/tiered/SharedTail"), (0, u "places"), (0, u "I"), (0, .fieldref 43 49), (0, .nameAndType 50 51), (0, u "low"), (0, u "J"), (0, .fieldref 43 53), (0, .nameAndType 54 41), (0, u "keptRight"), (0, .fieldref 43 56), (0, .nameAndType 57 41), (0, u "keptLeft"), (0, .fieldref 43 59), (0, .nameAndType 60 51), (0, u "high"), (0, .methodref 43 62), (0, .nameAndType 5 63), (0, u "(I[IJJJJLcom/example/tierfold/tierfold/tiered/TailSet;)V"), (0, .fieldref 11 65), (0, .nameAndType 66 67), (0, u "KEPT"), (0, u "Lcom/example/tierfold/tierfold/tiered/TailTreap;"), (0, .methodref 69 70), (0, .class_ 71), (0, .nameAndType 72 73), (0, u "com/example/tierfold/tierfold/tiered/TailTreap"), (0, u "insert"), (0, u "(Lcom/example/tierfold/tierfold/tiered/SharedTail;Lcom/example/tierfold/tierfold/tiered/SharedTail;)Lcom/example/tierfold/tierfold/tiered/SharedTail;"), (0, .fieldref 43 75), (0, .nameAndType 40 76), (0, u "Z"), (0, .fieldref 43 78), (0, .nameAndType 79 80), (0, u "firstRun"), (0, u "Lcom/example/tierfold/tierfold/tiered/SharedTail$Run;"), (22, .class_ 104), (0, u "com/example/tierfold/tierfold/tiered/TailSet"), (0, .fieldref 11 106), (0, .nameAndType 107 108), (0, u "NO_SIZES"), (0, u "[J"), (0, .fieldref 11 110), (0, .nameAndType 111 22), (0, u "NO_COUNTS"), (0, .methodref 103 113), (0, .nameAndType 5 114), (0, u "([J[IJJ)V"), (32, u "add"), (39, u "firstCount"), (25, .class_ 214), (0, u "com/example/tierfold/tierfold/tiered/SharedTails$1"), (6, u "find"), (0, u "(IJ)Lcom/example/tierfold/tierfold/tiered/SharedTail;"), (1, u "(I[IJJJJLcom/example/tierfold/tierfold/tiered/TailSet;)Lcom/example/tierfold/tierfold/tiered/SharedTail;"), (0, u "alone"), (0, u "()Lcom/example/tierfold/tierfold/tiered/TailSet;")] 45

def k2c0 : Code := { maxStack := 4, maxLocals := 2, code := prog_150_method_1_code, exceptionTable := #[], attributes := #[] }
def k2m0 : Method := { name := "<init>", desc := "(I)V", sig := { parameters := [.int], returnType := none }, accessFlags := 0, code := some k2c0 }
def k2c1 : Code := { maxStack := 4, maxLocals := 6, code := prog_150_method_2_code, exceptionTable := #[], attributes := #[] }
def k2m1 : Method := { name := "find", desc := "(IJ)Lcom/example/tierfold/tierfold/tiered/SharedTail;", sig := { parameters := [.int, .long], returnType := some (.object "com/example/tierfold/tierfold/tiered/SharedTail") }, accessFlags := 0, code := some k2c1 }
def k2c2 : Code := { maxStack := 13, maxLocals := 14, code := prog_150_method_3_code, exceptionTable := #[], attributes := #[] }
def k2m2 : Method := { name := "add", desc := "(I[IJJJJLcom/example/tierfold/tierfold/tiered/TailSet;)Lcom/example/tierfold/tierfold/tiered/SharedTail;", sig := { parameters := [.int, (.array .int), .long, .long, .long, .long, (.object "com/example/tierfold/tierfold/tiered/TailSet")], returnType := some (.object "com/example/tierfold/tierfold/tiered/SharedTail") }, accessFlags := 0, code := some k2c2 }
def k2c3 : Code := { maxStack := 8, maxLocals := 1, code := prog_150_method_4_code, exceptionTable := #[], attributes := #[] }
def k2m3 : Method := { name := "alone", desc := "()Lcom/example/tierfold/tierfold/tiered/TailSet;", sig := { parameters := [], returnType := some (.object "com/example/tierfold/tierfold/tiered/TailSet") }, accessFlags := 0, code := some k2c3 }
/-- com/example/tierfold/tierfold/tiered/SharedTails -/
def k2 : Class := { plain "com/example/tierfold/tierfold/tiered/SharedTails" (some 0) with
  accessFlags := 48
  interfaces := #[]
  cf := some (fileOf pool2 11 #[.nestMembers #[213]] #[{ accessFlags := 0, nameIndex := 5, descriptorIndex := 33, attributes := #[] }, { accessFlags := 0, nameIndex := 221, descriptorIndex := 222, attributes := #[] }, { accessFlags := 0, nameIndex := 147, descriptorIndex := 224, attributes := #[] }, { accessFlags := 0, nameIndex := 225, descriptorIndex := 226, attributes := #[] }] 48 2 #[] #[{ accessFlags := 26, nameIndex := 107, descriptorIndex := 108, attributes := #[] }, { accessFlags := 26, nameIndex := 111, descriptorIndex := 22, attributes := #[] }, { accessFlags := 26, nameIndex := 66, descriptorIndex := 67, attributes := #[] }, { accessFlags := 2, nameIndex := 40, descriptorIndex := 41, attributes := #[] }, { accessFlags := 18, nameIndex := 27, descriptorIndex := 28, attributes := #[] }, { accessFlags := 18, nameIndex := 36, descriptorIndex := 37, attributes := #[] }, { accessFlags := 18, nameIndex := 14, descriptorIndex := 15, attributes := #[] }, { accessFlags := 18, nameIndex := 18, descriptorIndex := 15, attributes := #[] }, { accessFlags := 2, nameIndex := 21, descriptorIndex := 22, attributes := #[] }, { accessFlags := 2, nameIndex := 187, descriptorIndex := 47, attributes := #[] }])
  fields := #[{ name := "NO_SIZES", type := (.array .long), accessFlags := 26, slot := 0, constantValue := 0 }, { name := "NO_COUNTS", type := (.array .int), accessFlags := 26, slot := 1, constantValue := 0 }, { name := "KEPT", type := (.object "com/example/tierfold/tierfold/tiered/TailTreap"), accessFlags := 26, slot := 2, constantValue := 0 }, { name := "kept", type := (.object "com/example/tierfold/tierfold/tiered/SharedTail"), accessFlags := 2, slot := 0, constantValue := 0 }, { name := "startingAt", type := (.array (.object "com/example/tierfold/tierfold/tiered/SharedTail$Run")), accessFlags := 18, slot := 1, constantValue := 0 }, { name := "reach", type := (.object "com/example/tierfold/tierfold/tiered/ReachTree"), accessFlags := 18, slot := 2, constantValue := 0 }, { name := "setsByTakes", type := (.object "java/util/Map"), accessFlags := 18, slot := 3, constantValue := 0 }, { name := "setsBySize", type := (.object "java/util/Map"), accessFlags := 18, slot := 4, constantValue := 0 }, { name := "firsts", type := (.array .int), accessFlags := 2, slot := 5, constantValue := 0 }, { name := "firstCount", type := .int, accessFlags := 2, slot := 6, constantValue := 0 }]
  methods := #[k2m0, k2m1, k2m2, k2m3]
  instanceTypes := #[(.object "com/example/tierfold/tierfold/tiered/SharedTail"), (.array (.object "com/example/tierfold/tierfold/tiered/SharedTail$Run")), (.object "com/example/tierfold/tierfold/tiered/ReachTree"), (.object "java/util/Map"), (.object "java/util/Map"), (.array .int), .int]
  staticTypes := #[(.array .long), (.array .int), (.object "com/example/tierfold/tierfold/tiered/TailTreap")]
  resolved := Array.replicate 272 none
  statics := some 0 }

def pool3 : Array CpInfo := pool [(2, .class_ 4), (1, u "java/util/Map"), (31, .class_ 37), (0, u "java/util/Map$Entry"), (55, .class_ 94), (0, u "java/lang/Object")] 168

/-- java/util/Map -/
def k3 : Class := { plain "java/util/Map" (some 0) with
  accessFlags := 1537
  interfaces := #[]
  cf := some (fileOf pool3 2 #[.nestMembers #[36]] #[] 1537 93 #[] #[])
  fields := #[]
  methods := #[]
  instanceTypes := #[]
  staticTypes := #[]
  resolved := Array.replicate 263 none
  statics := none }

def pool4 : Array CpInfo := pool [(1, .methodref 2 3), (0, .class_ 4), (0, .nameAndType 5 6), (0, u "java/lang/Object"), (0, u "<init>"), (0, u "()V"), (1, .class_ 10), (1, u "java/util/AbstractMap"), (42, .class_ 54), (0, u "java/util/Map"), (9, u "keySet"), (0, u "Ljava/util/Set;"), (0, .class_ 67), (0, u "java/util/AbstractMap$1"), (5, u "values"), (0, u "Ljava/util/Collection;"), (0, .class_ 76), (0, u "java/util/AbstractMap$2"), (104, .class_ 182), (0, u "java/util/AbstractMap$ViewCollection"), (0, .class_ 184), (0, u "java/util/AbstractMap$SimpleImmutableEntry"), (0, .class_ 186), (0, u "java/util/AbstractMap$SimpleEntry"), (0, .class_ 188), (0, u "java/util/AbstractMap$2$1"), (0, .class_ 190), (0, u "java/util/AbstractMap$1$1")] 5

def k4c0 : Code := { maxStack := 1, maxLocals := 1, code := jdk_71_method_1_code, exceptionTable := #[], attributes := #[] }
def k4m0 : Method := { name := "<init>", desc := "()V", sig := { parameters := [], returnType := none }, accessFlags := 4, code := some k4c0 }
/-- java/util/AbstractMap -/
def k4 : Class := { plain "java/util/AbstractMap" (some 0) with
  accessFlags := 1057
  interfaces := #[3]
  cf := some (fileOf pool4 8 #[.nestMembers #[181, 183, 185, 75, 187, 66, 189]] #[{ accessFlags := 4, nameIndex := 5, descriptorIndex := 6, attributes := #[] }] 1057 2 #[53] #[{ accessFlags := 128, nameIndex := 64, descriptorIndex := 65, attributes := #[] }, { accessFlags := 128, nameIndex := 73, descriptorIndex := 74, attributes := #[] }])
  fields := #[{ name := "keySet", type := (.object "java/util/Set"), accessFlags := 128, slot := 0, constantValue := 0 }, { name := "values", type := (.object "java/util/Collection"), accessFlags := 128, slot := 1, constantValue := 0 }]
  methods := #[k4m0]
  instanceTypes := #[(.object "java/util/Set"), (.object "java/util/Collection")]
  staticTypes := #[]
  resolved := Array.replicate 196 none
  statics := none }

def pool5 : Array CpInfo := pool [(1, .class_ 2), (0, u "java/lang/Cloneable"), (0, .class_ 4), (0, u "java/lang/Object")] 2

/-- java/lang/Cloneable -/
def k5 : Class := { plain "java/lang/Cloneable" (some 0) with
  accessFlags := 1537
  interfaces := #[]
  cf := some (fileOf pool5 1 #[] #[] 1537 3 #[] #[])
  fields := #[]
  methods := #[]
  instanceTypes := #[]
  staticTypes := #[]
  resolved := Array.replicate 7 none
  statics := none }

def pool6 : Array CpInfo := pool [(1, .class_ 2), (0, u "java/io/Serializable"), (0, .class_ 4), (0, u "java/lang/Object")] 2

/-- java/io/Serializable -/
def k6 : Class := { plain "java/io/Serializable" (some 0) with
  accessFlags := 1537
  interfaces := #[]
  cf := some (fileOf pool6 1 #[] #[] 1537 3 #[] #[])
  fields := #[]
  methods := #[]
  instanceTypes := #[]
  staticTypes := #[]
  resolved := Array.replicate 7 none
  statics := none }

def pool7 : Array CpInfo := pool [(40, .class_ 41), (0, u "java/util/HashMap"), (1, .methodref 44 45), (0, .class_ 46), (0, .nameAndType 47 48), (0, u "java/util/AbstractMap"), (0, u "<init>"), (0, u "()V"), (32, .fieldref 40 82), (0, .nameAndType 83 84), (0, u "loadFactor"), (0, u "F"), (5, u "threshold"), (0, u "I"), (0, .float 1061158912), (8, .class_ 103), (1, u "java/util/Map"), (0, u "size"), (2, u "table"), (0, u "[Ljava/util/HashMap$Node;"), (14, u "entrySet"), (39, .class_ 165), (1, u "java/util/HashMap$Node"), (14, .class_ 181), (0, u "java/util/HashMap$TreeNode"), (22, u "modCount"), (37, u "Ljava/util/Set;"), (0, .class_ 244), (0, u "java/util/HashMap$KeySet"), (18, .class_ 264), (0, u "java/util/HashMap$Values"), (3, .class_ 269), (0, u "java/util/HashMap$EntrySet"), (76, .class_ 348), (1, u "java/util/HashMap$UnsafeHolder"), (43, .class_ 393), (0, u "java/lang/Cloneable"), (0, .class_ 395), (0, u "java/io/Serializable"), (0, u "serialVersionUID"), (0, u "J"), (3, u "DEFAULT_INITIAL_CAPACITY"), (1, u "MAXIMUM_CAPACITY"), (0, u "DEFAULT_LOAD_FACTOR"), (0, u "TREEIFY_THRESHOLD"), (1, u "UNTREEIFY_THRESHOLD"), (1, u "MIN_TREEIFY_CAPACITY"), (186, .class_ 597), (0, u "java/util/HashMap$EntrySpliterator"), (0, .class_ 599), (0, u "java/util/HashMap$ValueSpliterator"), (0, .class_ 601), (0, u "java/util/HashMap$KeySpliterator"), (0, .class_ 603), (0, u "java/util/HashMap$HashMapSpliterator"), (0, .class_ 605), (0, u "java/util/HashMap$EntryIterator"), (0, .class_ 607), (0, u "java/util/HashMap$ValueIterator"), (0, .class_ 609), (0, u "java/util/HashMap$KeyIterator"), (0, .class_ 611), (0, u "java/util/HashMap$HashIterator")] 17

def k7c0 : Code := { maxStack := 2, maxLocals := 1, code := jdk_69_method_7_code, exceptionTable := #[], attributes := #[] }
def k7m0 : Method := { name := "<init>", desc := "()V", sig := { parameters := [], returnType := none }, accessFlags := 1, code := some k7c0 }
/-- java/util/HashMap -/
def k7 : Class := { plain "java/util/HashMap" (some 4) with
  accessFlags := 33
  interfaces := #[3, 5, 6]
  cf := some (fileOf pool7 40 #[.nestMembers #[180, 596, 598, 600, 602, 604, 606, 608, 610, 346, 268, 263, 243, 163]] #[{ accessFlags := 1, nameIndex := 47, descriptorIndex := 48, attributes := #[] }] 33 44 #[101, 392, 394] #[{ accessFlags := 26, nameIndex := 396, descriptorIndex := 397, attributes := #[] }, { accessFlags := 24, nameIndex := 401, descriptorIndex := 91, attributes := #[] }, { accessFlags := 24, nameIndex := 403, descriptorIndex := 91, attributes := #[] }, { accessFlags := 24, nameIndex := 404, descriptorIndex := 84, attributes := #[] }, { accessFlags := 24, nameIndex := 405, descriptorIndex := 91, attributes := #[] }, { accessFlags := 24, nameIndex := 407, descriptorIndex := 91, attributes := #[] }, { accessFlags := 24, nameIndex := 409, descriptorIndex := 91, attributes := #[] }, { accessFlags := 128, nameIndex := 107, descriptorIndex := 108, attributes := #[] }, { accessFlags := 128, nameIndex := 123, descriptorIndex := 242, attributes := #[] }, { accessFlags := 128, nameIndex := 104, descriptorIndex := 91, attributes := #[] }, { accessFlags := 128, nameIndex := 204, descriptorIndex := 91, attributes := #[] }, { accessFlags := 0, nameIndex := 90, descriptorIndex := 91, attributes := #[] }, { accessFlags := 16, nameIndex := 83, descriptorIndex := 84, attributes := #[] }])
  fields := #[{ name := "serialVersionUID", type := .long, accessFlags := 26, slot := 0, constantValue := 0 }, { name := "DEFAULT_INITIAL_CAPACITY", type := .int, accessFlags := 24, slot := 1, constantValue := 0 }, { name := "MAXIMUM_CAPACITY", type := .int, accessFlags := 24, slot := 2, constantValue := 0 }, { name := "DEFAULT_LOAD_FACTOR", type := .float, accessFlags := 24, slot := 3, constantValue := 0 }, { name := "TREEIFY_THRESHOLD", type := .int, accessFlags := 24, slot := 4, constantValue := 0 }, { name := "UNTREEIFY_THRESHOLD", type := .int, accessFlags := 24, slot := 5, constantValue := 0 }, { name := "MIN_TREEIFY_CAPACITY", type := .int, accessFlags := 24, slot := 6, constantValue := 0 }, { name := "table", type := (.array (.object "java/util/HashMap$Node")), accessFlags := 128, slot := 2, constantValue := 0 }, { name := "entrySet", type := (.object "java/util/Set"), accessFlags := 128, slot := 3, constantValue := 0 }, { name := "size", type := .int, accessFlags := 128, slot := 4, constantValue := 0 }, { name := "modCount", type := .int, accessFlags := 128, slot := 5, constantValue := 0 }, { name := "threshold", type := .int, accessFlags := 0, slot := 6, constantValue := 0 }, { name := "loadFactor", type := .float, accessFlags := 16, slot := 7, constantValue := 0 }]
  methods := #[k7m0]
  instanceTypes := #[(.object "java/util/Set"), (.object "java/util/Collection"), (.array (.object "java/util/HashMap$Node")), (.object "java/util/Set"), .int, .int, .int, .float]
  staticTypes := #[.long, .int, .int, .float, .int, .int, .int]
  resolved := Array.replicate 629 none
  statics := none }

def pool8 : Array CpInfo := pool [(2, .class_ 4), (1, u "java/lang/Object"), (3, .class_ 10), (1, u "com/example/tierfold/tierfold/tiered/SharedTail$Run"), (0, u "tail"), (0, u "Lcom/example/tierfold/tierfold/tiered/SharedTail;"), (2, u "first"), (0, u "I"), (2, u "last"), (0, u "following"), (0, u "Lcom/example/tierfold/tierfold/tiered/SharedTail$Run;"), (0, u "next"), (0, u "previous"), (6, .class_ 31), (0, u "com/example/tierfold/tierfold/tiered/SharedTail")] 2

/-- com/example/tierfold/tierfold/tiered/SharedTail$Run -/
def k8 : Class := { plain "com/example/tierfold/tierfold/tiered/SharedTail$Run" (some 0) with
  accessFlags := 48
  interfaces := #[]
  cf := some (fileOf pool8 8 #[.nestHost 30] #[] 48 2 #[] #[{ accessFlags := 16, nameIndex := 11, descriptorIndex := 12, attributes := #[] }, { accessFlags := 16, nameIndex := 15, descriptorIndex := 16, attributes := #[] }, { accessFlags := 16, nameIndex := 19, descriptorIndex := 16, attributes := #[] }, { accessFlags := 0, nameIndex := 20, descriptorIndex := 21, attributes := #[] }, { accessFlags := 0, nameIndex := 22, descriptorIndex := 21, attributes := #[] }, { accessFlags := 0, nameIndex := 23, descriptorIndex := 21, attributes := #[] }])
  fields := #[{ name := "tail", type := (.object "com/example/tierfold/tierfold/tiered/SharedTail"), accessFlags := 16, slot := 0, constantValue := 0 }, { name := "first", type := .int, accessFlags := 16, slot := 1, constantValue := 0 }, { name := "last", type := .int, accessFlags := 16, slot := 2, constantValue := 0 }, { name := "following", type := (.object "com/example/tierfold/tierfold/tiered/SharedTail$Run"), accessFlags := 0, slot := 3, constantValue := 0 }, { name := "next", type := (.object "com/example/tierfold/tierfold/tiered/SharedTail$Run"), accessFlags := 0, slot := 4, constantValue := 0 }, { name := "previous", type := (.object "com/example/tierfold/tierfold/tiered/SharedTail$Run"), accessFlags := 0, slot := 5, constantValue := 0 }]
  methods := #[]
  instanceTypes := #[(.object "com/example/tierfold/tierfold/tiered/SharedTail"), .int, .int, (.object "com/example/tierfold/tierfold/tiered/SharedTail$Run"), (.object "com/example/tierfold/tierfold/tiered/SharedTail$Run"), (.object "com/example/tierfold/tierfold/tiered/SharedTail$Run")]
  staticTypes := #[]
  resolved := Array.replicate 34 none
  statics := none }

def pool9 : Array CpInfo := pool [(1, .methodref 2 3), (0, .class_ 4), (0, .nameAndType 5 6), (0, u "java/lang/Object"), (0, u "<init>"), (0, u "()V"), (0, .fieldref 8 9), (0, .class_ 10), (0, .nameAndType 11 12), (0, u "com/example/tierfold/tierfold/tiered/ReachTree"), (0, u "leaves"), (0, u "I"), (0, .fieldref 8 14), (0, .nameAndType 15 16), (0, u "reach"), (0, u "[I"), (0, .methodref 18 19), (0, .class_ 20), (0, .nameAndType 21 22), (0, u "java/util/Arrays"), (0, u "fill"), (0, u "([II)V"), (19, u "(I)V")] 9

def k9c0 : Code := { maxStack := 3, maxLocals := 3, code := prog_131_method_1_code, exceptionTable := #[], attributes := #[] }
def k9m0 : Method := { name := "<init>", desc := "(I)V", sig := { parameters := [.int], returnType := none }, accessFlags := 0, code := some k9c0 }
/-- com/example/tierfold/tierfold/tiered/ReachTree -/
def k9 : Class := { plain "com/example/tierfold/tierfold/tiered/ReachTree" (some 0) with
  accessFlags := 48
  interfaces := #[]
  cf := some (fileOf pool9 8 #[] #[{ accessFlags := 0, nameIndex := 5, descriptorIndex := 42, attributes := #[] }] 48 2 #[] #[{ accessFlags := 18, nameIndex := 11, descriptorIndex := 12, attributes := #[] }, { accessFlags := 18, nameIndex := 15, descriptorIndex := 16, attributes := #[] }])
  fields := #[{ name := "leaves", type := .int, accessFlags := 18, slot := 0, constantValue := 0 }, { name := "reach", type := (.array .int), accessFlags := 18, slot := 1, constantValue := 0 }]
  methods := #[k9m0]
  instanceTypes := #[.int, (.array .int)]
  staticTypes := #[]
  resolved := Array.replicate 52 none
  statics := none }

def pool10 : Array CpInfo := pool [(2, .class_ 4), (1, u "java/lang/Object"), (0, u "<init>"), (0, u "()V"), (7, .class_ 16), (1, u "java/util/Arrays"), (57, .class_ 76), (1, u "java/util/Arrays$NaturalOrder"), (36, .class_ 115), (1, u "java/util/Arrays$LegacyMergeSort"), (1, u "Z"), (257, .class_ 376), (0, u "java/util/Arrays$ArrayList"), (68, u "$assertionsDisabled"), (269, u "MIN_ARRAY_SORT_GRAN"), (0, u "I"), (2, u "INSERTIONSORT_THRESHOLD"), (120, u "fill"), (4, u "([II)V"), (129, .class_ 976), (0, u "java/util/Arrays$ArrayItr")] 52

def k10m0 : Method := { name := "<init>", desc := "()V", sig := { parameters := [], returnType := none }, accessFlags := 2, code := none }
def k10c1 : Code := { maxStack := 3, maxLocals := 4, code := jdk_65_method_103_code, exceptionTable := #[], attributes := #[] }
def k10m1 : Method := { name := "fill", desc := "([II)V", sig := { parameters := [(.array .int), .int], returnType := none }, accessFlags := 9, code := some k10c1 }
/-- java/util/Arrays -/
def k10 : Class := { plain "java/util/Arrays" (some 0) with
  accessFlags := 49
  interfaces := #[]
  cf := some (fileOf pool10 14 #[.nestMembers #[975, 375, 113, 74]] #[{ accessFlags := 2, nameIndex := 5, descriptorIndex := 6, attributes := #[] }, { accessFlags := 9, nameIndex := 840, descriptorIndex := 845, attributes := #[] }] 49 2 #[] #[{ accessFlags := 26, nameIndex := 715, descriptorIndex := 716, attributes := #[] }, { accessFlags := 26, nameIndex := 719, descriptorIndex := 716, attributes := #[] }, { accessFlags := 4120, nameIndex := 445, descriptorIndex := 117, attributes := #[] }])
  fields := #[{ name := "MIN_ARRAY_SORT_GRAN", type := .int, accessFlags := 26, slot := 0, constantValue := 0 }, { name := "INSERTIONSORT_THRESHOLD", type := .int, accessFlags := 26, slot := 1, constantValue := 0 }, { name := "$assertionsDisabled", type := .boolean, accessFlags := 4120, slot := 2, constantValue := 0 }]
  methods := #[k10m0, k10m1]
  instanceTypes := #[]
  staticTypes := #[.int, .int, .boolean]
  resolved := Array.replicate 1029 none
  statics := none }

def pool11 : Array CpInfo := pool [(1, .methodref 2 3), (0, .class_ 4), (0, .nameAndType 5 6), (0, u "java/lang/Object"), (0, u "<init>"), (0, u "()V"), (0, .fieldref 8 9), (0, .class_ 10), (0, .nameAndType 11 12), (0, u "com/example/tierfold/tierfold/tiered/TailSet"), (0, u "kept"), (0, u "Z"), (0, .fieldref 8 14), (0, .nameAndType 15 16), (0, u "queuedUnder"), (0, u "I"), (0, .fieldref 8 18), (0, .nameAndType 19 20), (0, u "takenSizes"), (0, u "[J"), (0, .fieldref 8 22), (0, .nameAndType 23 24), (0, u "takenCounts"), (0, u "[I"), (0, .fieldref 8 26), (0, .nameAndType 27 28), (0, u "total"), (0, u "J"), (0, .fieldref 8 30), (0, .nameAndType 31 28), (0, u "bytes"), (2, u "root"), (0, u "Lcom/example/tierfold/tierfold/tiered/SharedTail;"), (2, u "TREE"), (0, u "Lcom/example/tierfold/tierfold/tiered/TailTreap;"), (73, .class_ 114), (0, u "com/example/tierfold/tierfold/tiered/TailSet$1"), (1, u "([J[IJJ)V")] 17

def k11c0 : Code := { maxStack := 3, maxLocals := 7, code := prog_157_method_1_code, exceptionTable := #[], attributes := #[] }
def k11m0 : Method := { name := "<init>", desc := "([J[IJJ)V", sig := { parameters := [(.array .long), (.array .int), .long, .long], returnType := none }, accessFlags := 0, code := some k11c0 }
/-- com/example/tierfold/tierfold/tiered/TailSet -/
def k11 : Class := { plain "com/example/tierfold/tierfold/tiered/TailSet" (some 0) with
  accessFlags := 48
  interfaces := #[]
  cf := some (fileOf pool11 8 #[.nestMembers #[113]] #[{ accessFlags := 0, nameIndex := 5, descriptorIndex := 116, attributes := #[] }] 48 2 #[] #[{ accessFlags := 26, nameIndex := 38, descriptorIndex := 39, attributes := #[] }, { accessFlags := 16, nameIndex := 19, descriptorIndex := 20, attributes := #[] }, { accessFlags := 16, nameIndex := 23, descriptorIndex := 24, attributes := #[] }, { accessFlags := 16, nameIndex := 27, descriptorIndex := 28, attributes := #[] }, { accessFlags := 0, nameIndex := 31, descriptorIndex := 28, attributes := #[] }, { accessFlags := 0, nameIndex := 11, descriptorIndex := 12, attributes := #[] }, { accessFlags := 0, nameIndex := 15, descriptorIndex := 16, attributes := #[] }, { accessFlags := 2, nameIndex := 34, descriptorIndex := 35, attributes := #[] }])
  fields := #[{ name := "TREE", type := (.object "com/example/tierfold/tierfold/tiered/TailTreap"), accessFlags := 26, slot := 0, constantValue := 0 }, { name := "takenSizes", type := (.array .long), accessFlags := 16, slot := 0, constantValue := 0 }, { name := "takenCounts", type := (.array .int), accessFlags := 16, slot := 1, constantValue := 0 }, { name := "total", type := .long, accessFlags := 16, slot := 2, constantValue := 0 }, { name := "bytes", type := .long, accessFlags := 0, slot := 3, constantValue := 0 }, { name := "kept", type := .boolean, accessFlags := 0, slot := 4, constantValue := 0 }, { name := "queuedUnder", type := .int, accessFlags := 0, slot := 5, constantValue := 0 }, { name := "root", type := (.object "com/example/tierfold/tierfold/tiered/SharedTail"), accessFlags := 2, slot := 6, constantValue := 0 }]
  methods := #[k11m0]
  instanceTypes := #[(.array .long), (.array .int), .long, .long, .boolean, .int, (.object "com/example/tierfold/tierfold/tiered/SharedTail")]
  staticTypes := #[(.object "com/example/tierfold/tierfold/tiered/TailTreap")]
  resolved := Array.replicate 134 none
  statics := none }

def pool12 : Array CpInfo := pool [(1, .fieldref 2 3), (0, .class_ 4), (0, .nameAndType 5 6), (0, u "com/example/tierfold/tierfold/tiered/SharedTail"), (0, u "ownBytes"), (0, u "J"), (0, .fieldref 2 8), (0, .nameAndType 9 10), (0, u "set"), (0, u "Lcom/example/tierfold/tierfold/tiered/TailSet;"), (5, .methodref 17 18), (0, .class_ 19), (0, .nameAndType 20 21), (0, u "java/lang/Object"), (0, u "<init>"), (0, u "()V"), (2, .fieldref 2 25), (0, .nameAndType 26 27), (0, u "windows"), (0, u "I"), (0, .fieldref 2 29), (0, .nameAndType 30 27), (0, u "places"), (0, .fieldref 2 32), (0, .nameAndType 33 6), (0, u "total"), (0, .fieldref 2 35), (0, .nameAndType 36 6), (0, u "low"), (0, .fieldref 2 38), (0, .nameAndType 39 6), (0, u "high"), (0, .class_ 41), (0, u "com/example/tierfold/tierfold/tiered/SharedTail$Run"), (6, u "Lcom/example/tierfold/tierfold/tiered/SharedTail$Run;"), (0, .fieldref 2 50), (0, .nameAndType 51 48), (0, u "firstRun"), (0, u "kept"), (0, u "Z"), (0, u "keptLeft"), (0, u "Lcom/example/tierfold/tierfold/tiered/SharedTail;"), (0, u "keptRight"), (0, u "left"), (0, u "right"), (0, u "leastLive"), (0, u "mostDeleted"), (0, u "earliest"), (0, u "latest"), (0, u "leastLiveUnder"), (0, u "mostDeletedUnder"), (0, u "earliestUnder"), (0, u "latestUnder"), (3, u "(I[IJJJJLcom/example/tierfold/tierfold/tiered/TailSet;)V")] 8

def k12c0 : Code := { maxStack := 7, maxLocals := 15, code := prog_148_method_2_code, exceptionTable := #[], attributes := #[] }
def k12m0 : Method := { name := "<init>", desc := "(I[IJJJJLcom/example/tierfold/tierfold/tiered/TailSet;)V", sig := { parameters := [.int, (.array .int), .long, .long, .long, .long, (.object "com/example/tierfold/tierfold/tiered/TailSet")], returnType := none }, accessFlags := 0, code := some k12c0 }
/-- com/example/tierfold/tierfold/tiered/SharedTail -/
def k12 : Class := { plain "com/example/tierfold/tierfold/tiered/SharedTail" (some 0) with
  accessFlags := 48
  interfaces := #[]
  cf := some (fileOf pool12 2 #[.nestMembers #[40]] #[{ accessFlags := 0, nameIndex := 20, descriptorIndex := 70, attributes := #[] }] 48 17 #[] #[{ accessFlags := 16, nameIndex := 30, descriptorIndex := 27, attributes := #[] }, { accessFlags := 16, nameIndex := 33, descriptorIndex := 6, attributes := #[] }, { accessFlags := 16, nameIndex := 36, descriptorIndex := 6, attributes := #[] }, { accessFlags := 16, nameIndex := 5, descriptorIndex := 6, attributes := #[] }, { accessFlags := 16, nameIndex := 9, descriptorIndex := 10, attributes := #[] }, { accessFlags := 16, nameIndex := 51, descriptorIndex := 48, attributes := #[] }, { accessFlags := 0, nameIndex := 39, descriptorIndex := 6, attributes := #[] }, { accessFlags := 0, nameIndex := 26, descriptorIndex := 27, attributes := #[] }, { accessFlags := 0, nameIndex := 52, descriptorIndex := 53, attributes := #[] }, { accessFlags := 0, nameIndex := 54, descriptorIndex := 55, attributes := #[] }, { accessFlags := 0, nameIndex := 56, descriptorIndex := 55, attributes := #[] }, { accessFlags := 0, nameIndex := 57, descriptorIndex := 55, attributes := #[] }, { accessFlags := 0, nameIndex := 58, descriptorIndex := 55, attributes := #[] }, { accessFlags := 0, nameIndex := 59, descriptorIndex := 6, attributes := #[] }, { accessFlags := 0, nameIndex := 60, descriptorIndex := 6, attributes := #[] }, { accessFlags := 0, nameIndex := 61, descriptorIndex := 27, attributes := #[] }, { accessFlags := 0, nameIndex := 62, descriptorIndex := 27, attributes := #[] }, { accessFlags := 0, nameIndex := 63, descriptorIndex := 6, attributes := #[] }, { accessFlags := 0, nameIndex := 64, descriptorIndex := 6, attributes := #[] }, { accessFlags := 0, nameIndex := 65, descriptorIndex := 27, attributes := #[] }, { accessFlags := 0, nameIndex := 66, descriptorIndex := 27, attributes := #[] }])
  fields := #[{ name := "places", type := .int, accessFlags := 16, slot := 0, constantValue := 0 }, { name := "total", type := .long, accessFlags := 16, slot := 1, constantValue := 0 }, { name := "low", type := .long, accessFlags := 16, slot := 2, constantValue := 0 }, { name := "ownBytes", type := .long, accessFlags := 16, slot := 3, constantValue := 0 }, { name := "set", type := (.object "com/example/tierfold/tierfold/tiered/TailSet"), accessFlags := 16, slot := 4, constantValue := 0 }, { name := "firstRun", type := (.object "com/example/tierfold/tierfold/tiered/SharedTail$Run"), accessFlags := 16, slot := 5, constantValue := 0 }, { name := "high", type := .long, accessFlags := 0, slot := 6, constantValue := 0 }, { name := "windows", type := .int, accessFlags := 0, slot := 7, constantValue := 0 }, { name := "kept", type := .boolean, accessFlags := 0, slot := 8, constantValue := 0 }, { name := "keptLeft", type := (.object "com/example/tierfold/tierfold/tiered/SharedTail"), accessFlags := 0, slot := 9, constantValue := 0 }, { name := "keptRight", type := (.object "com/example/tierfold/tierfold/tiered/SharedTail"), accessFlags := 0, slot := 10, constantValue := 0 }, { name := "left", type := (.object "com/example/tierfold/tierfold/tiered/SharedTail"), accessFlags := 0, slot := 11, constantValue := 0 }, { name := "right", type := (.object "com/example/tierfold/tierfold/tiered/SharedTail"), accessFlags := 0, slot := 12, constantValue := 0 }, { name := "leastLive", type := .long, accessFlags := 0, slot := 13, constantValue := 0 }, { name := "mostDeleted", type := .long, accessFlags := 0, slot := 14, constantValue := 0 }, { name := "earliest", type := .int, accessFlags := 0, slot := 15, constantValue := 0 }, { name := "latest", type := .int, accessFlags := 0, slot := 16, constantValue := 0 }, { name := "leastLiveUnder", type := .long, accessFlags := 0, slot := 17, constantValue := 0 }, { name := "mostDeletedUnder", type := .long, accessFlags := 0, slot := 18, constantValue := 0 }, { name := "earliestUnder", type := .int, accessFlags := 0, slot := 19, constantValue := 0 }, { name := "latestUnder", type := .int, accessFlags := 0, slot := 20, constantValue := 0 }]
  methods := #[k12m0]
  instanceTypes := #[.int, .long, .long, .long, (.object "com/example/tierfold/tierfold/tiered/TailSet"), (.object "com/example/tierfold/tierfold/tiered/SharedTail$Run"), .long, .int, .boolean, (.object "com/example/tierfold/tierfold/tiered/SharedTail"), (.object "com/example/tierfold/tierfold/tiered/SharedTail"), (.object "com/example/tierfold/tierfold/tiered/SharedTail"), (.object "com/example/tierfold/tierfold/tiered/SharedTail"), .long, .long, .int, .int, .long, .long, .int, .int]
  staticTypes := #[]
  resolved := Array.replicate 79 none
  statics := none }

def pool13 : Array CpInfo := pool [(2, .class_ 4), (1, u "java/lang/Object"), (0, u "<init>"), (0, u "()V"), (0, .methodref 8 9), (0, .class_ 10), (0, .nameAndType 11 12), (0, u "com/example/tierfold/tierfold/tiered/TailTreap"), (0, u "priority"), (0, u "(Lcom/example/tierfold/tierfold/tiered/SharedTail;)I"), (0, .methodref 8 14), (0, .nameAndType 15 16), (0, u "split"), (0, u "(Lcom/example/tierfold/tierfold/tiered/SharedTail;Lcom/example/tierfold/tierfold/tiered/SharedTail;)[Lcom/example/tierfold/tierfold/tiered/SharedTail;"), (0, .methodref 8 18), (0, .nameAndType 19 20), (0, u "setLeft"), (0, u "(Lcom/example/tierfold/tierfold/tiered/SharedTail;Lcom/example/tierfold/tierfold/tiered/SharedTail;)V"), (0, .methodref 8 22), (0, .nameAndType 23 20), (0, u "setRight"), (0, .methodref 8 25), (0, .nameAndType 26 27), (0, u "update"), (0, u "(Lcom/example/tierfold/tierfold/tiered/SharedTail;)V"), (0, .methodref 8 29), (0, .nameAndType 30 31), (0, u "before"), (0, u "(Lcom/example/tierfold/tierfold/tiered/SharedTail;Lcom/example/tierfold/tierfold/tiered/SharedTail;)Z"), (0, .methodref 8 33), (0, .nameAndType 34 35), (0, u "left"), (0, u "(Lcom/example/tierfold/tierfold/tiered/SharedTail;)Lcom/example/tierfold/tierfold/tiered/SharedTail;"), (0, .methodref 8 37), (0, .nameAndType 38 39), (0, u "insert"), (0, u "(Lcom/example/tierfold/tierfold/tiered/SharedTail;Lcom/example/tierfold/tierfold/tiered/SharedTail;)Lcom/example/tierfold/tierfold/tiered/SharedTail;"), (0, .methodref 8 41), (0, .nameAndType 42 35), (0, u "right"), (6, .fieldref 50 51), (0, .class_ 52), (0, .nameAndType 53 54), (0, u "com/example/tierfold/tierfold/tiered/SharedTail"), (0, u "places"), (0, u "I"), (0, .fieldref 50 56), (0, .nameAndType 57 58), (0, u "low"), (0, u "J"), (0, .long 11400714819323198485), (1, .long 18397679294719823053)] 6

def k13m0 : Method := { name := "<init>", desc := "()V", sig := { parameters := [], returnType := none }, accessFlags := 0, code := none }
def k13m1 : Method := { name := "left", desc := "(Lcom/example/tierfold/tierfold/tiered/SharedTail;)Lcom/example/tierfold/tierfold/tiered/SharedTail;", sig := { parameters := [(.object "com/example/tierfold/tierfold/tiered/SharedTail")], returnType := some (.object "com/example/tierfold/tierfold/tiered/SharedTail") }, accessFlags := 1024, code := none }
def k13m2 : Method := { name := "right", desc := "(Lcom/example/tierfold/tierfold/tiered/SharedTail;)Lcom/example/tierfold/tierfold/tiered/SharedTail;", sig := { parameters := [(.object "com/example/tierfold/tierfold/tiered/SharedTail")], returnType := some (.object "com/example/tierfold/tierfold/tiered/SharedTail") }, accessFlags := 1024, code := none }
def k13m3 : Method := { name := "setLeft", desc := "(Lcom/example/tierfold/tierfold/tiered/SharedTail;Lcom/example/tierfold/tierfold/tiered/SharedTail;)V", sig := { parameters := [(.object "com/example/tierfold/tierfold/tiered/SharedTail"), (.object "com/example/tierfold/tierfold/tiered/SharedTail")], returnType := none }, accessFlags := 1024, code := none }
def k13m4 : Method := { name := "setRight", desc := "(Lcom/example/tierfold/tierfold/tiered/SharedTail;Lcom/example/tierfold/tierfold/tiered/SharedTail;)V", sig := { parameters := [(.object "com/example/tierfold/tierfold/tiered/SharedTail"), (.object "com/example/tierfold/tierfold/tiered/SharedTail")], returnType := none }, accessFlags := 1024, code := none }
def k13c5 : Code := { maxStack := 0, maxLocals := 2, code := prog_159_method_6_code, exceptionTable := #[], attributes := #[] }
def k13m5 : Method := { name := "update", desc := "(Lcom/example/tierfold/tierfold/tiered/SharedTail;)V", sig := { parameters := [(.object "com/example/tierfold/tierfold/tiered/SharedTail")], returnType := none }, accessFlags := 0, code := some k13c5 }
def k13c6 : Code := { maxStack := 5, maxLocals := 4, code := prog_159_method_7_code, exceptionTable := #[], attributes := #[] }
def k13m6 : Method := { name := "insert", desc := "(Lcom/example/tierfold/tierfold/tiered/SharedTail;Lcom/example/tierfold/tierfold/tiered/SharedTail;)Lcom/example/tierfold/tierfold/tiered/SharedTail;", sig := { parameters := [(.object "com/example/tierfold/tierfold/tiered/SharedTail"), (.object "com/example/tierfold/tierfold/tiered/SharedTail")], returnType := some (.object "com/example/tierfold/tierfold/tiered/SharedTail") }, accessFlags := 16, code := some k13c6 }
def k13c7 : Code := { maxStack := 4, maxLocals := 2, code := prog_159_method_9_code, exceptionTable := #[], attributes := #[] }
def k13m7 : Method := { name := "before", desc := "(Lcom/example/tierfold/tierfold/tiered/SharedTail;Lcom/example/tierfold/tierfold/tiered/SharedTail;)Z", sig := { parameters := [(.object "com/example/tierfold/tierfold/tiered/SharedTail"), (.object "com/example/tierfold/tierfold/tiered/SharedTail")], returnType := some .boolean }, accessFlags := 8, code := some k13c7 }
def k13c8 : Code := { maxStack := 4, maxLocals := 4, code := prog_159_method_10_code, exceptionTable := #[], attributes := #[] }
def k13m8 : Method := { name := "split", desc := "(Lcom/example/tierfold/tierfold/tiered/SharedTail;Lcom/example/tierfold/tierfold/tiered/SharedTail;)[Lcom/example/tierfold/tierfold/tiered/SharedTail;", sig := { parameters := [(.object "com/example/tierfold/tierfold/tiered/SharedTail"), (.object "com/example/tierfold/tierfold/tiered/SharedTail")], returnType := some (.array (.object "com/example/tierfold/tierfold/tiered/SharedTail")) }, accessFlags := 2, code := some k13c8 }
def k13c9 : Code := { maxStack := 5, maxLocals := 3, code := prog_159_method_12_code, exceptionTable := #[], attributes := #[] }
def k13m9 : Method := { name := "priority", desc := "(Lcom/example/tierfold/tierfold/tiered/SharedTail;)I", sig := { parameters := [(.object "com/example/tierfold/tierfold/tiered/SharedTail")], returnType := some .int }, accessFlags := 10, code := some k13c9 }
/-- com/example/tierfold/tierfold/tiered/TailTreap -/
def k13 : Class := { plain "com/example/tierfold/tierfold/tiered/TailTreap" (some 0) with
  accessFlags := 1056
  interfaces := #[]
  cf := some (fileOf pool13 8 #[] #[{ accessFlags := 0, nameIndex := 5, descriptorIndex := 6, attributes := #[] }, { accessFlags := 1024, nameIndex := 34, descriptorIndex := 35, attributes := #[] }, { accessFlags := 1024, nameIndex := 42, descriptorIndex := 35, attributes := #[] }, { accessFlags := 1024, nameIndex := 19, descriptorIndex := 20, attributes := #[] }, { accessFlags := 1024, nameIndex := 23, descriptorIndex := 20, attributes := #[] }, { accessFlags := 0, nameIndex := 26, descriptorIndex := 27, attributes := #[] }, { accessFlags := 16, nameIndex := 38, descriptorIndex := 39, attributes := #[] }, { accessFlags := 8, nameIndex := 30, descriptorIndex := 31, attributes := #[] }, { accessFlags := 2, nameIndex := 15, descriptorIndex := 16, attributes := #[] }, { accessFlags := 10, nameIndex := 11, descriptorIndex := 12, attributes := #[] }] 1056 2 #[] #[])
  fields := #[]
  methods := #[k13m0, k13m1, k13m2, k13m3, k13m4, k13m5, k13m6, k13m7, k13m8, k13m9]
  instanceTypes := #[]
  staticTypes := #[]
  resolved := Array.replicate 68 none
  statics := none }

def pool14 : Array CpInfo := pool [(2, .class_ 4), (1, u "com/example/tierfold/tierfold/tiered/TailTreap"), (0, u "<init>"), (0, u "()V"), (0, .fieldref 8 9), (0, .class_ 10), (0, .nameAndType 11 12), (0, u "com/example/tierfold/tierfold/tiered/SharedTail"), (0, u "keptLeft"), (0, u "Lcom/example/tierfold/tierfold/tiered/SharedTail;"), (0, .fieldref 8 14), (0, .nameAndType 15 12), (0, u "keptRight"), (0, .class_ 17), (0, u "com/example/tierfold/tierfold/tiered/SharedTails$1"), (2, u "left"), (0, u "(Lcom/example/tierfold/tierfold/tiered/SharedTail;)Lcom/example/tierfold/tierfold/tiered/SharedTail;"), (0, u "right"), (0, u "setLeft"), (0, u "(Lcom/example/tierfold/tierfold/tiered/SharedTail;Lcom/example/tierfold/tierfold/tiered/SharedTail;)V"), (0, u "setRight"), (3, .class_ 30), (0, u "com/example/tierfold/tierfold/tiered/SharedTails")] 2

def k14m0 : Method := { name := "<init>", desc := "()V", sig := { parameters := [], returnType := none }, accessFlags := 0, code := none }
def k14c1 : Code := { maxStack := 1, maxLocals := 2, code := prog_151_method_2_code, exceptionTable := #[], attributes := #[] }
def k14m1 : Method := { name := "left", desc := "(Lcom/example/tierfold/tierfold/tiered/SharedTail;)Lcom/example/tierfold/tierfold/tiered/SharedTail;", sig := { parameters := [(.object "com/example/tierfold/tierfold/tiered/SharedTail")], returnType := some (.object "com/example/tierfold/tierfold/tiered/SharedTail") }, accessFlags := 0, code := some k14c1 }
def k14c2 : Code := { maxStack := 1, maxLocals := 2, code := prog_151_method_3_code, exceptionTable := #[], attributes := #[] }
def k14m2 : Method := { name := "right", desc := "(Lcom/example/tierfold/tierfold/tiered/SharedTail;)Lcom/example/tierfold/tierfold/tiered/SharedTail;", sig := { parameters := [(.object "com/example/tierfold/tierfold/tiered/SharedTail")], returnType := some (.object "com/example/tierfold/tierfold/tiered/SharedTail") }, accessFlags := 0, code := some k14c2 }
def k14c3 : Code := { maxStack := 2, maxLocals := 3, code := prog_151_method_4_code, exceptionTable := #[], attributes := #[] }
def k14m3 : Method := { name := "setLeft", desc := "(Lcom/example/tierfold/tierfold/tiered/SharedTail;Lcom/example/tierfold/tierfold/tiered/SharedTail;)V", sig := { parameters := [(.object "com/example/tierfold/tierfold/tiered/SharedTail"), (.object "com/example/tierfold/tierfold/tiered/SharedTail")], returnType := none }, accessFlags := 0, code := some k14c3 }
def k14c4 : Code := { maxStack := 2, maxLocals := 3, code := prog_151_method_5_code, exceptionTable := #[], attributes := #[] }
def k14m4 : Method := { name := "setRight", desc := "(Lcom/example/tierfold/tierfold/tiered/SharedTail;Lcom/example/tierfold/tierfold/tiered/SharedTail;)V", sig := { parameters := [(.object "com/example/tierfold/tierfold/tiered/SharedTail"), (.object "com/example/tierfold/tierfold/tiered/SharedTail")], returnType := none }, accessFlags := 0, code := some k14c4 }
/-- com/example/tierfold/tierfold/tiered/SharedTails$1 -/
def k14 : Class := { plain "com/example/tierfold/tierfold/tiered/SharedTails$1" (some 13) with
  accessFlags := 32
  interfaces := #[]
  cf := some (fileOf pool14 16 #[.nestHost 29] #[{ accessFlags := 0, nameIndex := 5, descriptorIndex := 6, attributes := #[] }, { accessFlags := 0, nameIndex := 20, descriptorIndex := 21, attributes := #[] }, { accessFlags := 0, nameIndex := 22, descriptorIndex := 21, attributes := #[] }, { accessFlags := 0, nameIndex := 23, descriptorIndex := 24, attributes := #[] }, { accessFlags := 0, nameIndex := 25, descriptorIndex := 24, attributes := #[] }] 32 2 #[] #[])
  fields := #[]
  methods := #[k14m0, k14m1, k14m2, k14m3, k14m4]
  instanceTypes := #[]
  staticTypes := #[]
  resolved := Array.replicate 33 none
  statics := none }

/-- the primitive byte -/
def k15 : Class := { plain "byte" none with kind := .primitive 'B', accessFlags := 0x411 }
/-- [B -/
def k16 : Class := { plain "[B" (some 0) with kind := .array 15 .byte, interfaces := #[5, 6], accessFlags := 1041 }

/-- the primitive int -/
def k17 : Class := { plain "int" none with kind := .primitive 'I', accessFlags := 0x411 }
/-- [I -/
def k18 : Class := { plain "[I" (some 0) with kind := .array 17 .int, interfaces := #[5, 6], accessFlags := 1041 }

/-- the primitive long -/
def k19 : Class := { plain "long" none with kind := .primitive 'J', accessFlags := 0x411 }
/-- [J -/
def k20 : Class := { plain "[J" (some 0) with kind := .array 19 .long, interfaces := #[5, 6], accessFlags := 1041 }

/-- [Lcom/example/tierfold/tierfold/tiered/SharedTail; -/
def k21 : Class := { plain "[Lcom/example/tierfold/tierfold/tiered/SharedTail;" (some 0) with kind := .array 12 (.object "com/example/tierfold/tierfold/tiered/SharedTail"), interfaces := #[5, 6], accessFlags := 1041 }

/-- [Lcom/example/tierfold/tierfold/tiered/SharedTail$Run; -/
def k22 : Class := { plain "[Lcom/example/tierfold/tierfold/tiered/SharedTail$Run;" (some 0) with kind := .array 8 (.object "com/example/tierfold/tierfold/tiered/SharedTail$Run"), interfaces := #[5, 6], accessFlags := 1041 }

def heap : Heap := #[{ cls := 2, slots := #[.ref 1, .ref 2, .ref 3], vm := .statics 2 },
  { cls := 20, slots := #[], vm := .none },
  { cls := 18, slots := #[], vm := .none },
  { cls := 14, slots := #[], vm := .none }]
def classes : Array Class := #[k0, k1, k2, k3, k4, k5, k6, k7, k8, k9, k10, k11, k12, k13, k14, k15, k16, k17, k18, k19, k20, k21, k22]
def interned : List (Array UInt16 × Addr) := []
def slotsUsed : Nat := 3
def theMethod : MethodId := ⟨1, 1⟩
def args0 : Array Value := #[.int 5, .long 3, .long 9, .long 20, .int 7, .long 4]
def aboutOver (below : List Frame) : State where
  vm := { classes := classes, interned := interned.toArray }
  heap := heap
  slotsUsed := slotsUsed
  threads := #[{ frames := .invoking theMethod args0 :: below }]
def below0 : List Frame := [.native { method := ⟨0, 0⟩, args := #[] }]
def about1 : State := aboutOver below0
def p0 : Program := .bare "" "" ""
def e0 : Env := launch0.env 0 0 0
theorem w_frames : about1.frames = Frame.invoking theMethod args0 :: below0 := rfl
set_option maxRecDepth 65536 in
theorem w_args : argsFit about1.vm theMethod args0 = true := by decide +kernel
set_option maxRecDepth 65536 in
theorem w_heap : heapFits about1 = true := by decide +kernel
set_option maxRecDepth 65536 in
theorem w_runnable : about1.curStatus? = some .runnable := by decide +kernel
set_option maxRecDepth 65536 in
theorem w_alone : about1.alone = true := by decide +kernel
set_option maxRecDepth 65536 in
theorem w_named : about1.methodNamed? x = some theMethod := by decide +kernel
set_option maxRecDepth 65536 in
theorem w_hears : about1.hears theMethod below0 = true := by decide +kernel
set_option maxRecDepth 65536 in
theorem w_ripe : about1.ripe theMethod args0 below0 = true := by decide +kernel
theorem w_running : about1.status = .running := rfl
set_option maxRecDepth 65536 in
theorem w_room : about1.hasRoom e0.platform room_1 = true :=
  launch0.hasRoom_least _ room_1 (by decide +kernel) (by decide +kernel) (by decide +kernel) (by decide +kernel) (by decide +kernel) (by decide +kernel)
theorem allAtoms_all (ts : List Jvm.Cond) (a : Array Jvm.Value) (st : Jvm.State) : (allAtoms ts).before a st = ts.all (fun c => c.before a st) := by
  induction ts with
  | nil => rfl
  | cons c t ih =>
    show (Jvm.Cond.and c (allAtoms t)).before a st = _
    rw [Jvm.Cond.before_and, ih, List.all_cons]
def words1 : List Jvm.Cond := Jvm.Cond.code x code maxLocals ret :: tables_1
/-- a 'code' word, met by the world's own term for the bytes: nothing is compared byte by byte -/
theorem code_word {y : MethodName} {bytes : ByteArray} {mx : Nat} {rt : Option FieldType} {a : Array Value} {s : State} {m : MethodId} {meth : Method} {c : Code} (h1 : s.methodNamed? y = some m) (h2 : s.vm.method? m = some meth) (h3 : meth.code = some c) (h4 : c.code = bytes)
    (h5 : (c.maxLocals == mx && c.exceptionTable.isEmpty && decide (c.maxStack ≤ mostOperands) && decide (meth.sig.returnType = rt) && !meth.locks && decide (parseMethodDescriptor y.desc = some meth.sig)) = true) : (Jvm.Cond.code y bytes mx rt).before a s = true := by
  simp only [Bool.and_eq_true, beq_iff_eq, Bool.not_eq_true', decide_eq_true_eq] at h5
  obtain ⟨⟨⟨⟨⟨g1, g2⟩, g3⟩, g4⟩, g5⟩, g6⟩ := h5
  simp [Cond.before, Cond.holds, Cond.value, h1, h2, h3, h4, g1, g2, g3, g4, g5, g6]
def isCode : Jvm.Cond → Bool
  | .code _ _ _ _ => true
  | _ => false
theorem all_split {L : List Jvm.Cond} {P : Jvm.Cond → Bool} (h1 : L.all (fun c => isCode c || P c) = true) (h2 : ∀ c ∈ L.filter isCode, P c = true) : L.all P = true := by
  refine List.all_eq_true.mpr fun c hc => ?_
  have h := List.all_eq_true.mp h1 c hc
  rcases Bool.eq_false_or_eq_true (isCode c) with hi | hi
  · exact h2 c (List.mem_filter.mpr ⟨hc, hi⟩)
  · simpa [hi] using h
set_option maxRecDepth 65536 in
theorem w_c0 : (Jvm.Cond.code x code maxLocals ret).before args0 about1 = true := code_word (m := ⟨1, 1⟩) (meth := k1m1) (c := k1c1) (by decide +kernel) rfl rfl rfl (by decide +kernel)
set_option maxRecDepth 65536 in
theorem w_c1 : (Jvm.Cond.code ({ cls := "com/example/tierfold/tierfold/tiered/SharedTailsFindPinLaw", name := "shift", desc := "(JJ)J" } : Jvm.MethodName) method_3_code (4 : Nat) (Option.some Jvm.ClassFile.FieldType.long)).before args0 about1 = true := code_word (m := ⟨1, 2⟩) (meth := k1m2) (c := k1c2) (by decide +kernel) rfl rfl rfl (by decide +kernel)
set_option maxRecDepth 65536 in
theorem w_c2 : (Jvm.Cond.code ({ cls := "com/example/tierfold/tierfold/tiered/SharedTailsFindPinLaw", name := "clash", desc := "(IJJIJJ)Z" } : Jvm.MethodName) method_4_code (10 : Nat) (Option.some Jvm.ClassFile.FieldType.boolean)).before args0 about1 = true := code_word (m := ⟨1, 3⟩) (meth := k1m3) (c := k1c3) (by decide +kernel) rfl rfl rfl (by decide +kernel)
set_option maxRecDepth 65536 in
theorem w_c3 : (Jvm.Cond.code ({ cls := "com/example/tierfold/tierfold/tiered/SharedTails", name := "<init>", desc := "(I)V" } : Jvm.MethodName) prog_150_method_1_code (2 : Nat) (Option.none : Option Jvm.ClassFile.FieldType)).before args0 about1 = true := code_word (m := ⟨2, 0⟩) (meth := k2m0) (c := k2c0) (by decide +kernel) rfl rfl rfl (by decide +kernel)
set_option maxRecDepth 65536 in
theorem w_c4 : (Jvm.Cond.code ({ cls := "java/lang/Object", name := "<init>", desc := "()V" } : Jvm.MethodName) object_method_1_code (1 : Nat) (Option.none : Option Jvm.ClassFile.FieldType)).before args0 about1 = true := code_word (m := ⟨0, 0⟩) (meth := k0m0) (c := k0c0) (by decide +kernel) rfl rfl rfl (by decide +kernel)
set_option maxRecDepth 65536 in
theorem w_c5 : (Jvm.Cond.code ({ cls := "java/util/HashMap", name := "<init>", desc := "()V" } : Jvm.MethodName) jdk_69_method_7_code (1 : Nat) (Option.none : Option Jvm.ClassFile.FieldType)).before args0 about1 = true := code_word (m := ⟨7, 0⟩) (meth := k7m0) (c := k7c0) (by decide +kernel) rfl rfl rfl (by decide +kernel)
set_option maxRecDepth 65536 in
theorem w_c6 : (Jvm.Cond.code ({ cls := "java/util/AbstractMap", name := "<init>", desc := "()V" } : Jvm.MethodName) jdk_71_method_1_code (1 : Nat) (Option.none : Option Jvm.ClassFile.FieldType)).before args0 about1 = true := code_word (m := ⟨4, 0⟩) (meth := k4m0) (c := k4c0) (by decide +kernel) rfl rfl rfl (by decide +kernel)
set_option maxRecDepth 65536 in
theorem w_c7 : (Jvm.Cond.code ({ cls := "com/example/tierfold/tierfold/tiered/ReachTree", name := "<init>", desc := "(I)V" } : Jvm.MethodName) prog_131_method_1_code (3 : Nat) (Option.none : Option Jvm.ClassFile.FieldType)).before args0 about1 = true := code_word (m := ⟨9, 0⟩) (meth := k9m0) (c := k9c0) (by decide +kernel) rfl rfl rfl (by decide +kernel)
set_option maxRecDepth 65536 in
theorem w_c8 : (Jvm.Cond.code ({ cls := "java/util/Arrays", name := "fill", desc := "([II)V" } : Jvm.MethodName) jdk_65_method_103_code (4 : Nat) (Option.none : Option Jvm.ClassFile.FieldType)).before args0 about1 = true := code_word (m := ⟨10, 1⟩) (meth := k10m1) (c := k10c1) (by decide +kernel) rfl rfl rfl (by decide +kernel)
set_option maxRecDepth 65536 in
theorem w_c9 : (Jvm.Cond.code ({ cls := "com/example/tierfold/tierfold/tiered/SharedTails", name := "alone", desc := "()Lcom/example/tierfold/tierfold/tiered/TailSet;" } : Jvm.MethodName) prog_150_method_4_code (1 : Nat) (Option.some (Jvm.ClassFile.FieldType.object "com/example/tierfold/tierfold/tiered/TailSet"))).before args0 about1 = true := code_word (m := ⟨2, 3⟩) (meth := k2m3) (c := k2c3) (by decide +kernel) rfl rfl rfl (by decide +kernel)
set_option maxRecDepth 65536 in
theorem w_c10 : (Jvm.Cond.code ({ cls := "com/example/tierfold/tierfold/tiered/TailSet", name := "<init>", desc := "([J[IJJ)V" } : Jvm.MethodName) prog_157_method_1_code (7 : Nat) (Option.none : Option Jvm.ClassFile.FieldType)).before args0 about1 = true := code_word (m := ⟨11, 0⟩) (meth := k11m0) (c := k11c0) (by decide +kernel) rfl rfl rfl (by decide +kernel)
set_option maxRecDepth 65536 in
theorem w_c11 : (Jvm.Cond.code ({ cls := "com/example/tierfold/tierfold/tiered/SharedTails", name := "add", desc := "(I[IJJJJLcom/example/tierfold/tierfold/tiered/TailSet;)Lcom/example/tierfold/tierfold/tiered/SharedTail;" } : Jvm.MethodName) prog_150_method_3_code (14 : Nat) (Option.some (Jvm.ClassFile.FieldType.object "com/example/tierfold/tierfold/tiered/SharedTail"))).before args0 about1 = true := code_word (m := ⟨2, 2⟩) (meth := k2m2) (c := k2c2) (by decide +kernel) rfl rfl rfl (by decide +kernel)
set_option maxRecDepth 65536 in
theorem w_c12 : (Jvm.Cond.code ({ cls := "com/example/tierfold/tierfold/tiered/SharedTail", name := "<init>", desc := "(I[IJJJJLcom/example/tierfold/tierfold/tiered/TailSet;)V" } : Jvm.MethodName) prog_148_method_2_code (15 : Nat) (Option.none : Option Jvm.ClassFile.FieldType)).before args0 about1 = true := code_word (m := ⟨12, 0⟩) (meth := k12m0) (c := k12c0) (by decide +kernel) rfl rfl rfl (by decide +kernel)
set_option maxRecDepth 65536 in
theorem w_c13 : (Jvm.Cond.code ({ cls := "com/example/tierfold/tierfold/tiered/TailTreap", name := "insert", desc := "(Lcom/example/tierfold/tierfold/tiered/SharedTail;Lcom/example/tierfold/tierfold/tiered/SharedTail;)Lcom/example/tierfold/tierfold/tiered/SharedTail;" } : Jvm.MethodName) prog_159_method_7_code (4 : Nat) (Option.some (Jvm.ClassFile.FieldType.object "com/example/tierfold/tierfold/tiered/SharedTail"))).before args0 about1 = true := code_word (m := ⟨13, 6⟩) (meth := k13m6) (c := k13c6) (by decide +kernel) rfl rfl rfl (by decide +kernel)
set_option maxRecDepth 65536 in
theorem w_c14 : (Jvm.Cond.code ({ cls := "com/example/tierfold/tierfold/tiered/TailTreap", name := "priority", desc := "(Lcom/example/tierfold/tierfold/tiered/SharedTail;)I" } : Jvm.MethodName) prog_159_method_12_code (3 : Nat) (Option.some Jvm.ClassFile.FieldType.int)).before args0 about1 = true := code_word (m := ⟨13, 9⟩) (meth := k13m9) (c := k13c9) (by decide +kernel) rfl rfl rfl (by decide +kernel)
set_option maxRecDepth 65536 in
theorem w_c15 : (Jvm.Cond.code ({ cls := "com/example/tierfold/tierfold/tiered/TailTreap", name := "before", desc := "(Lcom/example/tierfold/tierfold/tiered/SharedTail;Lcom/example/tierfold/tierfold/tiered/SharedTail;)Z" } : Jvm.MethodName) prog_159_method_9_code (2 : Nat) (Option.some Jvm.ClassFile.FieldType.boolean)).before args0 about1 = true := code_word (m := ⟨13, 7⟩) (meth := k13m7) (c := k13c7) (by decide +kernel) rfl rfl rfl (by decide +kernel)
set_option maxRecDepth 65536 in
theorem w_c16 : (Jvm.Cond.code ({ cls := "com/example/tierfold/tierfold/tiered/SharedTails$1", name := "right", desc := "(Lcom/example/tierfold/tierfold/tiered/SharedTail;)Lcom/example/tierfold/tierfold/tiered/SharedTail;" } : Jvm.MethodName) prog_151_method_3_code (2 : Nat) (Option.some (Jvm.ClassFile.FieldType.object "com/example/tierfold/tierfold/tiered/SharedTail"))).before args0 about1 = true := code_word (m := ⟨14, 2⟩) (meth := k14m2) (c := k14c2) (by decide +kernel) rfl rfl rfl (by decide +kernel)
set_option maxRecDepth 65536 in
theorem w_c17 : (Jvm.Cond.code ({ cls := "com/example/tierfold/tierfold/tiered/SharedTails$1", name := "setRight", desc := "(Lcom/example/tierfold/tierfold/tiered/SharedTail;Lcom/example/tierfold/tierfold/tiered/SharedTail;)V" } : Jvm.MethodName) prog_151_method_5_code (3 : Nat) (Option.none : Option Jvm.ClassFile.FieldType)).before args0 about1 = true := code_word (m := ⟨14, 4⟩) (meth := k14m4) (c := k14c4) (by decide +kernel) rfl rfl rfl (by decide +kernel)
set_option maxRecDepth 65536 in
theorem w_c18 : (Jvm.Cond.code ({ cls := "com/example/tierfold/tierfold/tiered/TailTreap", name := "update", desc := "(Lcom/example/tierfold/tierfold/tiered/SharedTail;)V" } : Jvm.MethodName) prog_159_method_6_code (2 : Nat) (Option.none : Option Jvm.ClassFile.FieldType)).before args0 about1 = true := code_word (m := ⟨13, 5⟩) (meth := k13m5) (c := k13c5) (by decide +kernel) rfl rfl rfl (by decide +kernel)
set_option maxRecDepth 65536 in
theorem w_c19 : (Jvm.Cond.code ({ cls := "com/example/tierfold/tierfold/tiered/TailTreap", name := "split", desc := "(Lcom/example/tierfold/tierfold/tiered/SharedTail;Lcom/example/tierfold/tierfold/tiered/SharedTail;)[Lcom/example/tierfold/tierfold/tiered/SharedTail;" } : Jvm.MethodName) prog_159_method_10_code (4 : Nat) (Option.some (Jvm.ClassFile.FieldType.array (Jvm.ClassFile.FieldType.object "com/example/tierfold/tierfold/tiered/SharedTail")))).before args0 about1 = true := code_word (m := ⟨13, 8⟩) (meth := k13m8) (c := k13c8) (by decide +kernel) rfl rfl rfl (by decide +kernel)
set_option maxRecDepth 65536 in
theorem w_c20 : (Jvm.Cond.code ({ cls := "com/example/tierfold/tierfold/tiered/SharedTails$1", name := "setLeft", desc := "(Lcom/example/tierfold/tierfold/tiered/SharedTail;Lcom/example/tierfold/tierfold/tiered/SharedTail;)V" } : Jvm.MethodName) prog_151_method_4_code (3 : Nat) (Option.none : Option Jvm.ClassFile.FieldType)).before args0 about1 = true := code_word (m := ⟨14, 3⟩) (meth := k14m3) (c := k14c3) (by decide +kernel) rfl rfl rfl (by decide +kernel)
set_option maxRecDepth 65536 in
theorem w_c21 : (Jvm.Cond.code ({ cls := "com/example/tierfold/tierfold/tiered/SharedTailsFindPinLaw", name := "holds", desc := "(IJJIJ)Z" } : Jvm.MethodName) method_5_code (8 : Nat) (Option.some Jvm.ClassFile.FieldType.boolean)).before args0 about1 = true := code_word (m := ⟨1, 4⟩) (meth := k1m4) (c := k1c4) (by decide +kernel) rfl rfl rfl (by decide +kernel)
set_option maxRecDepth 65536 in
theorem w_c22 : (Jvm.Cond.code ({ cls := "com/example/tierfold/tierfold/tiered/SharedTails", name := "find", desc := "(IJ)Lcom/example/tierfold/tierfold/tiered/SharedTail;" } : Jvm.MethodName) prog_150_method_2_code (6 : Nat) (Option.some (Jvm.ClassFile.FieldType.object "com/example/tierfold/tierfold/tiered/SharedTail"))).before args0 about1 = true := code_word (m := ⟨2, 1⟩) (meth := k2m1) (c := k2c1) (by decide +kernel) rfl rfl rfl (by decide +kernel)
set_option maxRecDepth 65536 in
theorem w_c23 : (Jvm.Cond.code ({ cls := "com/example/tierfold/tierfold/tiered/SharedTails$1", name := "left", desc := "(Lcom/example/tierfold/tierfold/tiered/SharedTail;)Lcom/example/tierfold/tierfold/tiered/SharedTail;" } : Jvm.MethodName) prog_151_method_2_code (2 : Nat) (Option.some (Jvm.ClassFile.FieldType.object "com/example/tierfold/tierfold/tiered/SharedTail"))).before args0 about1 = true := code_word (m := ⟨14, 1⟩) (meth := k14m1) (c := k14c1) (by decide +kernel) rfl rfl rfl (by decide +kernel)
def codes1 : List Jvm.Cond := [Jvm.Cond.code x code maxLocals ret, Jvm.Cond.code ({ cls := "com/example/tierfold/tierfold/tiered/SharedTailsFindPinLaw", name := "shift", desc := "(JJ)J" } : Jvm.MethodName) method_3_code (4 : Nat) (Option.some Jvm.ClassFile.FieldType.long), Jvm.Cond.code ({ cls := "com/example/tierfold/tierfold/tiered/SharedTailsFindPinLaw", name := "clash", desc := "(IJJIJJ)Z" } : Jvm.MethodName) method_4_code (10 : Nat) (Option.some Jvm.ClassFile.FieldType.boolean), Jvm.Cond.code ({ cls := "com/example/tierfold/tierfold/tiered/SharedTails", name := "<init>", desc := "(I)V" } : Jvm.MethodName) prog_150_method_1_code (2 : Nat) (Option.none : Option Jvm.ClassFile.FieldType), Jvm.Cond.code ({ cls := "java/lang/Object", name := "<init>", desc := "()V" } : Jvm.MethodName) object_method_1_code (1 : Nat) (Option.none : Option Jvm.ClassFile.FieldType), Jvm.Cond.code ({ cls := "java/util/HashMap", name := "<init>", desc := "()V" } : Jvm.MethodName) jdk_69_method_7_code (1 : Nat) (Option.none : Option Jvm.ClassFile.FieldType), Jvm.Cond.code ({ cls := "java/util/AbstractMap", name := "<init>", desc := "()V" } : Jvm.MethodName) jdk_71_method_1_code (1 : Nat) (Option.none : Option Jvm.ClassFile.FieldType), Jvm.Cond.code ({ cls := "com/example/tierfold/tierfold/tiered/ReachTree", name := "<init>", desc := "(I)V" } : Jvm.MethodName) prog_131_method_1_code (3 : Nat) (Option.none : Option Jvm.ClassFile.FieldType), Jvm.Cond.code ({ cls := "java/util/Arrays", name := "fill", desc := "([II)V" } : Jvm.MethodName) jdk_65_method_103_code (4 : Nat) (Option.none : Option Jvm.ClassFile.FieldType), Jvm.Cond.code ({ cls := "com/example/tierfold/tierfold/tiered/SharedTails", name := "alone", desc := "()Lcom/example/tierfold/tierfold/tiered/TailSet;" } : Jvm.MethodName) prog_150_method_4_code (1 : Nat) (Option.some (Jvm.ClassFile.FieldType.object "com/example/tierfold/tierfold/tiered/TailSet")), Jvm.Cond.code ({ cls := "com/example/tierfold/tierfold/tiered/TailSet", name := "<init>", desc := "([J[IJJ)V" } : Jvm.MethodName) prog_157_method_1_code (7 : Nat) (Option.none : Option Jvm.ClassFile.FieldType), Jvm.Cond.code ({ cls := "com/example/tierfold/tierfold/tiered/SharedTails", name := "add", desc := "(I[IJJJJLcom/example/tierfold/tierfold/tiered/TailSet;)Lcom/example/tierfold/tierfold/tiered/SharedTail;" } : Jvm.MethodName) prog_150_method_3_code (14 : Nat) (Option.some (Jvm.ClassFile.FieldType.object "com/example/tierfold/tierfold/tiered/SharedTail")), Jvm.Cond.code ({ cls := "com/example/tierfold/tierfold/tiered/SharedTail", name := "<init>", desc := "(I[IJJJJLcom/example/tierfold/tierfold/tiered/TailSet;)V" } : Jvm.MethodName) prog_148_method_2_code (15 : Nat) (Option.none : Option Jvm.ClassFile.FieldType), Jvm.Cond.code ({ cls := "com/example/tierfold/tierfold/tiered/TailTreap", name := "insert", desc := "(Lcom/example/tierfold/tierfold/tiered/SharedTail;Lcom/example/tierfold/tierfold/tiered/SharedTail;)Lcom/example/tierfold/tierfold/tiered/SharedTail;" } : Jvm.MethodName) prog_159_method_7_code (4 : Nat) (Option.some (Jvm.ClassFile.FieldType.object "com/example/tierfold/tierfold/tiered/SharedTail")), Jvm.Cond.code ({ cls := "com/example/tierfold/tierfold/tiered/TailTreap", name := "priority", desc := "(Lcom/example/tierfold/tierfold/tiered/SharedTail;)I" } : Jvm.MethodName) prog_159_method_12_code (3 : Nat) (Option.some Jvm.ClassFile.FieldType.int), Jvm.Cond.code ({ cls := "com/example/tierfold/tierfold/tiered/TailTreap", name := "before", desc := "(Lcom/example/tierfold/tierfold/tiered/SharedTail;Lcom/example/tierfold/tierfold/tiered/SharedTail;)Z" } : Jvm.MethodName) prog_159_method_9_code (2 : Nat) (Option.some Jvm.ClassFile.FieldType.boolean), Jvm.Cond.code ({ cls := "com/example/tierfold/tierfold/tiered/SharedTails$1", name := "right", desc := "(Lcom/example/tierfold/tierfold/tiered/SharedTail;)Lcom/example/tierfold/tierfold/tiered/SharedTail;" } : Jvm.MethodName) prog_151_method_3_code (2 : Nat) (Option.some (Jvm.ClassFile.FieldType.object "com/example/tierfold/tierfold/tiered/SharedTail")), Jvm.Cond.code ({ cls := "com/example/tierfold/tierfold/tiered/SharedTails$1", name := "setRight", desc := "(Lcom/example/tierfold/tierfold/tiered/SharedTail;Lcom/example/tierfold/tierfold/tiered/SharedTail;)V" } : Jvm.MethodName) prog_151_method_5_code (3 : Nat) (Option.none : Option Jvm.ClassFile.FieldType), Jvm.Cond.code ({ cls := "com/example/tierfold/tierfold/tiered/TailTreap", name := "update", desc := "(Lcom/example/tierfold/tierfold/tiered/SharedTail;)V" } : Jvm.MethodName) prog_159_method_6_code (2 : Nat) (Option.none : Option Jvm.ClassFile.FieldType), Jvm.Cond.code ({ cls := "com/example/tierfold/tierfold/tiered/TailTreap", name := "split", desc := "(Lcom/example/tierfold/tierfold/tiered/SharedTail;Lcom/example/tierfold/tierfold/tiered/SharedTail;)[Lcom/example/tierfold/tierfold/tiered/SharedTail;" } : Jvm.MethodName) prog_159_method_10_code (4 : Nat) (Option.some (Jvm.ClassFile.FieldType.array (Jvm.ClassFile.FieldType.object "com/example/tierfold/tierfold/tiered/SharedTail"))), Jvm.Cond.code ({ cls := "com/example/tierfold/tierfold/tiered/SharedTails$1", name := "setLeft", desc := "(Lcom/example/tierfold/tierfold/tiered/SharedTail;Lcom/example/tierfold/tierfold/tiered/SharedTail;)V" } : Jvm.MethodName) prog_151_method_4_code (3 : Nat) (Option.none : Option Jvm.ClassFile.FieldType), Jvm.Cond.code ({ cls := "com/example/tierfold/tierfold/tiered/SharedTailsFindPinLaw", name := "holds", desc := "(IJJIJ)Z" } : Jvm.MethodName) method_5_code (8 : Nat) (Option.some Jvm.ClassFile.FieldType.boolean), Jvm.Cond.code ({ cls := "com/example/tierfold/tierfold/tiered/SharedTails", name := "find", desc := "(IJ)Lcom/example/tierfold/tierfold/tiered/SharedTail;" } : Jvm.MethodName) prog_150_method_2_code (6 : Nat) (Option.some (Jvm.ClassFile.FieldType.object "com/example/tierfold/tierfold/tiered/SharedTail")), Jvm.Cond.code ({ cls := "com/example/tierfold/tierfold/tiered/SharedTails$1", name := "left", desc := "(Lcom/example/tierfold/tierfold/tiered/SharedTail;)Lcom/example/tierfold/tierfold/tiered/SharedTail;" } : Jvm.MethodName) prog_151_method_2_code (2 : Nat) (Option.some (Jvm.ClassFile.FieldType.object "com/example/tierfold/tierfold/tiered/SharedTail"))]
set_option maxRecDepth 65536 in
theorem codes_eq : words1.filter isCode = codes1 := rfl
theorem w_codes : ∀ c ∈ words1.filter isCode, c.before args0 about1 = true := by
  rw [codes_eq]
  intro c hc
  simp only [codes1, List.mem_cons, List.not_mem_nil, or_false] at hc
  rcases hc with rfl | rfl | rfl | rfl | rfl | rfl | rfl | rfl | rfl | rfl | rfl | rfl | rfl | rfl | rfl | rfl | rfl | rfl | rfl | rfl | rfl | rfl | rfl | rfl
  · exact w_c0
  · exact w_c1
  · exact w_c2
  · exact w_c3
  · exact w_c4
  · exact w_c5
  · exact w_c6
  · exact w_c7
  · exact w_c8
  · exact w_c9
  · exact w_c10
  · exact w_c11
  · exact w_c12
  · exact w_c13
  · exact w_c14
  · exact w_c15
  · exact w_c16
  · exact w_c17
  · exact w_c18
  · exact w_c19
  · exact w_c20
  · exact w_c21
  · exact w_c22
  · exact w_c23
set_option maxRecDepth 65536 in
theorem w_t1 : (words1.take 24).all (fun c => isCode c || c.before args0 about1) = true := by decide +kernel
set_option maxRecDepth 65536 in
theorem w_t2 : ((words1.drop 24).take 24).all (fun c => isCode c || c.before args0 about1) = true := by decide +kernel
set_option maxRecDepth 65536 in
theorem w_t3 : (((words1.drop 24).drop 24).take 24).all (fun c => isCode c || c.before args0 about1) = true := by decide +kernel
set_option maxRecDepth 65536 in
theorem w_t4 : ((((words1.drop 24).drop 24).drop 24).take 24).all (fun c => isCode c || c.before args0 about1) = true := by decide +kernel
set_option maxRecDepth 65536 in
theorem w_t5 : (((((words1.drop 24).drop 24).drop 24).drop 24).take 24).all (fun c => isCode c || c.before args0 about1) = true := by decide +kernel
set_option maxRecDepth 65536 in
theorem w_t6 : ((((((words1.drop 24).drop 24).drop 24).drop 24).drop 24).take 24).all (fun c => isCode c || c.before args0 about1) = true := by decide +kernel
set_option maxRecDepth 65536 in
theorem w_t7 : (((((((words1.drop 24).drop 24).drop 24).drop 24).drop 24).drop 24).take 24).all (fun c => isCode c || c.before args0 about1) = true := by decide +kernel
set_option maxRecDepth 65536 in
theorem w_t8 : ((((((((words1.drop 24).drop 24).drop 24).drop 24).drop 24).drop 24).drop 24).take 24).all (fun c => isCode c || c.before args0 about1) = true := by decide +kernel
set_option maxRecDepth 65536 in
theorem w_t9 : ((((((((words1.drop 24).drop 24).drop 24).drop 24).drop 24).drop 24).drop 24).drop 24).all (fun c => isCode c || c.before args0 about1) = true := by decide +kernel
theorem w_tables : (allAtoms (Jvm.Cond.code x code maxLocals ret :: tables_1)).before args0 about1 = true := by
  rw [allAtoms_all]
  show words1.all (fun c => c.before args0 about1) = true
  refine all_split ?_ w_codes
  rw [← List.take_append_drop 24 words1, List.all_append, w_t1, ← List.take_append_drop 24 (words1.drop 24), List.all_append, w_t2, ← List.take_append_drop 24 ((words1.drop 24).drop 24), List.all_append, w_t3, ← List.take_append_drop 24 (((words1.drop 24).drop 24).drop 24), List.all_append, w_t4, ← List.take_append_drop 24 ((((words1.drop 24).drop 24).drop 24).drop 24), List.all_append, w_t5, ← List.take_append_drop 24 (((((words1.drop 24).drop 24).drop 24).drop 24).drop 24), List.all_append, w_t6, ← List.take_append_drop 24 ((((((words1.drop 24).drop 24).drop 24).drop 24).drop 24).drop 24), List.all_append, w_t7, ← List.take_append_drop 24 (((((((words1.drop 24).drop 24).drop 24).drop 24).drop 24).drop 24).drop 24), List.all_append, w_t8, w_t9]
  rfl
set_option maxRecDepth 65536 in
theorem w_case : (Jvm.Cond.and given_1 narrow_1).before args0 about1 = true := by decide +kernel
theorem w_applies : (headSpec (Jvm.Cond.code x code maxLocals ret :: tables_1) room_1).applies x e0.platform about1 = true :=
  (Spec.applies_iff w_frames).mpr ⟨w_running, w_runnable, w_alone, w_named, w_hears, w_ripe, w_room, w_tables⟩
theorem atStart : AtStart classFile x code maxLocals ret World_1 tables_1 room_1 Calls_1 rest_1 Pre_1 launch0 p0 e0 about1 theMethod args0 below0 :=
  ⟨lists_1, trivial, launch0.admits_env _ _ _, launch0.least_env, fairChoices_fair.cas, fairChoices_fair.clock, w_frames, w_args, w_heap, w_applies, trivial, trivial, w_case⟩
end start1
theorem witness_1 : WitnessClaimed_1 := ⟨start1.p0, start1.e0, start1.about1, start1.theMethod, start1.args0, start1.below0, start1.atStart⟩
end Jvm.Pilot.@@N@@
