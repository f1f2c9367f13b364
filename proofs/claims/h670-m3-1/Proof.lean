import JvmDerived
import JvmDerived.Pilot.@@N@@Statement
import JvmDerived.Pilot.@@N@@Code
set_option linter.unusedVariables false
set_option linter.unusedSimpArgs false
namespace Jvm.Pilot.@@N@@
open Jvm Jvm.ClassFile Sem Op Lib Jvm.Free Jvm.Stand Jvm.LawKit Jvm.RoadKit Bundle Jvm.Pilot.@@N@@.Jvm.D
/-- from S on the run ends as Q says -/
def own_Go (p : Program) (e : Env) (below : List Frame) (s : State) (Q : Option Value → Heap → List Loc → Prop) (k n : Nat) (S : State) : Prop :=
  ∃ s₂ o, Steps p.tables e below S s₂ ∧ s₂.status = .running ∧ Ended s₂ below o ∧ ∃ v L, o = .returned v ∧ Q v s₂.heap L ∧ FrameEnd s o s₂ L k n
/-- the goal, as a predicate that is closed under steps -/
theorem own_abs (p : Program) (e : Env) (below : List Frame) (s : State) (Q : Option Value → Heap → List Loc → Prop) (k n : Nat) :
    ∃ G : State → Prop, (∀ {S : State}, G S → own_Go p e below s Q k n S) ∧ (∀ {S S' : State}, (∀ t, Steps p.tables e below S' t → Steps p.tables e below S t) → G S' → G S) ∧ (∀ {S : State}, own_Go p e below s Q k n S → G S) :=
  ⟨own_Go p e below s Q k n, fun h => h, fun h g => by obtain ⟨s2, o, h1, r⟩ := g; exact ⟨s2, o, h _ h1, r⟩, fun h => h⟩
section OwnEnd
variable {p : Program} {l : Launch} {e : Env} {R : Room} {s : State} {m : MethodId} {args : Array Value} {below : List Frame} {meth : Method} {c : Code} {T : State} {locs : List Loc} {cells slots : Nat} {Q : Option Value → Heap → List Loc → Prop} {k n : Nat}
theorem own_goRet (X : Stand p l e R s m args below meth c T locs cells slots) (hx : p.tables.exec = Jvm.exec) {pc : Nat} {Ls : Array Slot} {w : Value} {t : FieldType} {i : Instr} {rest : List Value} (hret : meth.sig.returnType = some t) (hn : narrow t w = w)
    (hi : (i = .ireturn ∧ (t = .int ∨ t = .boolean ∨ t = .byte ∨ t = .char ∨ t = .short) ∧ ∃ z, w = .int z) ∨ (i = .lreturn ∧ t = .long ∧ ∃ z, w = .long z) ∨ (i = .dreturn ∧ t = .double ∧ ∃ z, w = .double z) ∨ (i = .freturn ∧ t = .float ∧ ∃ z, w = .float z) ∨ (i = .areturn ∧ t.isReference = true ∧ w.isRef = true))
    (hd : decode c.code pc = .ok (i, 1)) (hlk : meth.locks = false) (hQ : Q (some w) T.heap locs) (hk : cells ≤ k) (hn' : slots ≤ n) : own_Go p e below s Q k n (T.setTop (mkF m pc Ls (w :: rest))) := by
  obtain ⟨fs, hr, hrun, hended, hW, hsame⟩ := X.leave (v := some w) (fun h => by rw [hret] at h; cases h) hlk
  exact ⟨_, _, retOut X hx hret hn hi hd hr, hrun, hended, _, _, rfl, hQ, ⟨_, rfl⟩, hW, hsame.mono hk hn'⟩
theorem own_goVoid (X : Stand p l e R s m args below meth c T locs cells slots) (hx : p.tables.exec = Jvm.exec) {pc : Nat} {Ls : Array Slot} (hret : meth.sig.returnType = none)
    (hd : decode c.code pc = .ok (.return_, 1)) (hlk : meth.locks = false) (hQ : Q none T.heap locs) (hk : cells ≤ k) (hn' : slots ≤ n) : own_Go p e below s Q k n (T.setTop (mkF m pc Ls [])) := by
  obtain ⟨fs, hr, hrun, hended, hW, hsame⟩ := X.leave (v := none) (fun _ => rfl) hlk
  exact ⟨_, _, X.returnOut hx hret hd hr, hrun, hended, _, _, rfl, hQ, ⟨_, rfl⟩, hW, hsame.mono hk hn'⟩
end OwnEnd
section OwnStep
variable {p : Program} {e : Env} {below : List Frame} {G : State → Prop} {T : State} {m : MethodId} {c : Code} {pc pc' : Nat} {Ls Lt : Array Slot} {st : List Value}
/-- G is closed under steps -/
abbrev OwnCl (p : Program) (e : Env) (below : List Frame) (G : State → Prop) : Prop := ∀ {S S' : State}, (∀ t, Steps p.tables e below S' t → Steps p.tables e below S t) → G S' → G S
theorem o_iloadN (hst : OwnCl p e below G) (h : At T m c below) (hx : p.tables.exec = Jvm.exec) {n : Fin 4} {v : Int32} (hd : decode c.code pc = .ok (.iload_n n, 1)) (hp : pc + 1 = pc') (hl : Ls[n.val]? = some (.val (.int v))) (k : G (T.setTop (mkF m pc' Ls (.int v :: st)))) : G (T.setTop (mkF m pc Ls (st))) := by
  subst hp; exact hst (fun _ kt => XS.iloadN h hx rfl hd hl kt) k
theorem o_iload (hst : OwnCl p e below G) (h : At T m c below) (hx : p.tables.exec = Jvm.exec) {n : Nat} {v : Int32} (hd : decode c.code pc = .ok (.iload n, 2)) (hp : pc + 2 = pc') (hl : Ls[n]? = some (.val (.int v))) (k : G (T.setTop (mkF m pc' Ls (.int v :: st)))) : G (T.setTop (mkF m pc Ls (st))) := by
  subst hp; exact hst (fun _ kt => XS.iload h hx rfl hd hl kt) k
theorem o_lloadN (hst : OwnCl p e below G) (h : At T m c below) (hx : p.tables.exec = Jvm.exec) {n : Fin 4} {v : Int64} (hd : decode c.code pc = .ok (.lload_n n, 1)) (hp : pc + 1 = pc') (hl : Ls[n.val]? = some (.val (.long v))) (k : G (T.setTop (mkF m pc' Ls (.long v :: st)))) : G (T.setTop (mkF m pc Ls (st))) := by
  subst hp; exact hst (fun _ kt => XS.lloadN h hx rfl hd hl kt) k
theorem o_lload (hst : OwnCl p e below G) (h : At T m c below) (hx : p.tables.exec = Jvm.exec) {n : Nat} {v : Int64} (hd : decode c.code pc = .ok (.lload n, 2)) (hp : pc + 2 = pc') (hl : Ls[n]? = some (.val (.long v))) (k : G (T.setTop (mkF m pc' Ls (.long v :: st)))) : G (T.setTop (mkF m pc Ls (st))) := by
  subst hp; exact hst (fun _ kt => XS.lload h hx rfl hd hl kt) k
theorem o_floadN (hst : OwnCl p e below G) (h : At T m c below) (hx : p.tables.exec = Jvm.exec) {n : Fin 4} {v : UInt32} (hd : decode c.code pc = .ok (.fload_n n, 1)) (hp : pc + 1 = pc') (hl : Ls[n.val]? = some (.val (.float v))) (k : G (T.setTop (mkF m pc' Ls (.float v :: st)))) : G (T.setTop (mkF m pc Ls (st))) := by
  subst hp; exact hst (fun _ kt => XS.floadN h hx rfl hd hl kt) k
theorem o_fload (hst : OwnCl p e below G) (h : At T m c below) (hx : p.tables.exec = Jvm.exec) {n : Nat} {v : UInt32} (hd : decode c.code pc = .ok (.fload n, 2)) (hp : pc + 2 = pc') (hl : Ls[n]? = some (.val (.float v))) (k : G (T.setTop (mkF m pc' Ls (.float v :: st)))) : G (T.setTop (mkF m pc Ls (st))) := by
  subst hp; exact hst (fun _ kt => XS.fload h hx rfl hd hl kt) k
theorem o_aloadN (hst : OwnCl p e below G) (h : At T m c below) (hx : p.tables.exec = Jvm.exec) {n : Fin 4} {v : Value} (hd : decode c.code pc = .ok (.aload_n n, 1)) (hp : pc + 1 = pc') (hl : Ls[n.val]? = some (.val v)) (hv : v.isRef = true) (k : G (T.setTop (mkF m pc' Ls (v :: st)))) : G (T.setTop (mkF m pc Ls (st))) := by
  subst hp; exact hst (fun _ kt => XS.aloadN h hx rfl hd hl hv kt) k
theorem o_aload (hst : OwnCl p e below G) (h : At T m c below) (hx : p.tables.exec = Jvm.exec) {n : Nat} {v : Value} (hd : decode c.code pc = .ok (.aload n, 2)) (hp : pc + 2 = pc') (hl : Ls[n]? = some (.val v)) (hv : v.isRef = true) (k : G (T.setTop (mkF m pc' Ls (v :: st)))) : G (T.setTop (mkF m pc Ls (st))) := by
  subst hp; exact hst (fun _ kt => XS.aload h hx rfl hd hl hv kt) k
theorem o_istoreN (hst : OwnCl p e below G) (h : At T m c below) (hx : p.tables.exec = Jvm.exec) {n : Fin 4} {v : Int32} (hd : decode c.code pc = .ok (.istore_n n, 1)) (hp : pc + 1 = pc') (hl : storeLocals Ls n.val (.int v) = some Lt) (k : G (T.setTop (mkF m pc' Lt (st)))) : G (T.setTop (mkF m pc Ls (.int v :: st))) := by
  subst hp; exact hst (fun _ kt => XS.istoreN h hx rfl hd rfl hl kt) k
theorem o_istore (hst : OwnCl p e below G) (h : At T m c below) (hx : p.tables.exec = Jvm.exec) {n : Nat} {v : Int32} (hd : decode c.code pc = .ok (.istore n, 2)) (hp : pc + 2 = pc') (hl : storeLocals Ls n (.int v) = some Lt) (k : G (T.setTop (mkF m pc' Lt (st)))) : G (T.setTop (mkF m pc Ls (.int v :: st))) := by
  subst hp; exact hst (fun _ kt => XS.istore h hx rfl hd rfl hl kt) k
theorem o_lstoreN (hst : OwnCl p e below G) (h : At T m c below) (hx : p.tables.exec = Jvm.exec) {n : Fin 4} {v : Int64} (hd : decode c.code pc = .ok (.lstore_n n, 1)) (hp : pc + 1 = pc') (hl : storeLocals Ls n.val (.long v) = some Lt) (k : G (T.setTop (mkF m pc' Lt (st)))) : G (T.setTop (mkF m pc Ls (.long v :: st))) := by
  subst hp; exact hst (fun _ kt => XS.lstoreN h hx rfl hd rfl hl kt) k
theorem o_lstore (hst : OwnCl p e below G) (h : At T m c below) (hx : p.tables.exec = Jvm.exec) {n : Nat} {v : Int64} (hd : decode c.code pc = .ok (.lstore n, 2)) (hp : pc + 2 = pc') (hl : storeLocals Ls n (.long v) = some Lt) (k : G (T.setTop (mkF m pc' Lt (st)))) : G (T.setTop (mkF m pc Ls (.long v :: st))) := by
  subst hp; exact hst (fun _ kt => XS.lstore h hx rfl hd rfl hl kt) k
theorem o_astoreN (hst : OwnCl p e below G) (h : At T m c below) (hx : p.tables.exec = Jvm.exec) {n : Fin 4} {v : Value} (hd : decode c.code pc = .ok (.astore_n n, 1)) (hp : pc + 1 = pc') (hv : v.isRef = true) (hl : storeLocals Ls n.val v = some Lt) (k : G (T.setTop (mkF m pc' Lt (st)))) : G (T.setTop (mkF m pc Ls (v :: st))) := by
  subst hp; exact hst (fun _ kt => XS.astoreN h hx rfl hd rfl hv hl kt) k
theorem o_astore (hst : OwnCl p e below G) (h : At T m c below) (hx : p.tables.exec = Jvm.exec) {n : Nat} {v : Value} (hd : decode c.code pc = .ok (.astore n, 2)) (hp : pc + 2 = pc') (hv : v.isRef = true) (hl : storeLocals Ls n v = some Lt) (k : G (T.setTop (mkF m pc' Lt (st)))) : G (T.setTop (mkF m pc Ls (v :: st))) := by
  subst hp; exact hst (fun _ kt => XS.astore h hx rfl hd rfl hv hl kt) k
theorem o_iconst (hst : OwnCl p e below G) (h : At T m c below) (hx : p.tables.exec = Jvm.exec) {i : Int} {z : Int32} (hd : decode c.code pc = .ok (.iconst i, 1)) (hp : pc + 1 = pc') (hz : Int32.ofInt i = z) (k : G (T.setTop (mkF m pc' Ls (.int z :: st)))) : G (T.setTop (mkF m pc Ls (st))) := by
  subst hp hz; exact hst (fun _ kt => XS.iconst h hx rfl hd kt) k
theorem o_bipush (hst : OwnCl p e below G) (h : At T m c below) (hx : p.tables.exec = Jvm.exec) {i : Int} {z : Int32} (hd : decode c.code pc = .ok (.bipush i, 2)) (hp : pc + 2 = pc') (hz : (Int8.ofInt i).toInt32 = z) (k : G (T.setTop (mkF m pc' Ls (.int z :: st)))) : G (T.setTop (mkF m pc Ls (st))) := by
  subst hp hz; exact hst (fun _ kt => XS.bipush h hx rfl hd kt) k
theorem o_sipush (hst : OwnCl p e below G) (h : At T m c below) (hx : p.tables.exec = Jvm.exec) {i : Int} {z : Int32} (hd : decode c.code pc = .ok (.sipush i, 3)) (hp : pc + 3 = pc') (hz : (Int16.ofInt i).toInt32 = z) (k : G (T.setTop (mkF m pc' Ls (.int z :: st)))) : G (T.setTop (mkF m pc Ls (st))) := by
  subst hp hz; exact hst (fun _ kt => XS.sipush h hx rfl hd kt) k
theorem o_lconst (hst : OwnCl p e below G) (h : At T m c below) (hx : p.tables.exec = Jvm.exec) {i : Fin 2} {z : Int64} (hd : decode c.code pc = .ok (.lconst i, 1)) (hp : pc + 1 = pc') (hz : Int64.ofNat i = z) (k : G (T.setTop (mkF m pc' Ls (.long z :: st)))) : G (T.setTop (mkF m pc Ls (st))) := by
  subst hp hz; exact hst (fun _ kt => XS.lconst h hx rfl hd kt) k
theorem o_aconstNull (hst : OwnCl p e below G) (h : At T m c below) (hx : p.tables.exec = Jvm.exec)  (hd : decode c.code pc = .ok (.aconst_null, 1)) (hp : pc + 1 = pc') (k : G (T.setTop (mkF m pc' Ls (.null :: st)))) : G (T.setTop (mkF m pc Ls (st))) := by
  subst hp; exact hst (fun _ kt => XS.aconstNull h hx rfl hd kt) k
theorem o_iadd (hst : OwnCl p e below G) (h : At T m c below) (hx : p.tables.exec = Jvm.exec) {x y : Int32} (hd : decode c.code pc = .ok (.iadd, 1)) (hp : pc + 1 = pc') (k : G (T.setTop (mkF m pc' Ls (.int (x + y) :: st)))) : G (T.setTop (mkF m pc Ls (.int y :: .int x :: st))) := by
  subst hp; exact hst (fun _ kt => XS.iadd h hx rfl hd rfl kt) k
theorem o_ladd (hst : OwnCl p e below G) (h : At T m c below) (hx : p.tables.exec = Jvm.exec) {x y : Int64} (hd : decode c.code pc = .ok (.ladd, 1)) (hp : pc + 1 = pc') (k : G (T.setTop (mkF m pc' Ls (.long (x + y) :: st)))) : G (T.setTop (mkF m pc Ls (.long y :: .long x :: st))) := by
  subst hp; exact hst (fun _ kt => XS.ladd h hx rfl hd rfl kt) k
theorem o_isub (hst : OwnCl p e below G) (h : At T m c below) (hx : p.tables.exec = Jvm.exec) {x y : Int32} (hd : decode c.code pc = .ok (.isub, 1)) (hp : pc + 1 = pc') (k : G (T.setTop (mkF m pc' Ls (.int (x - y) :: st)))) : G (T.setTop (mkF m pc Ls (.int y :: .int x :: st))) := by
  subst hp; exact hst (fun _ kt => XS.isub h hx rfl hd rfl kt) k
theorem o_lsub (hst : OwnCl p e below G) (h : At T m c below) (hx : p.tables.exec = Jvm.exec) {x y : Int64} (hd : decode c.code pc = .ok (.lsub, 1)) (hp : pc + 1 = pc') (k : G (T.setTop (mkF m pc' Ls (.long (x - y) :: st)))) : G (T.setTop (mkF m pc Ls (.long y :: .long x :: st))) := by
  subst hp; exact hst (fun _ kt => XS.lsub h hx rfl hd rfl kt) k
theorem o_imul (hst : OwnCl p e below G) (h : At T m c below) (hx : p.tables.exec = Jvm.exec) {x y : Int32} (hd : decode c.code pc = .ok (.imul, 1)) (hp : pc + 1 = pc') (k : G (T.setTop (mkF m pc' Ls (.int (x * y) :: st)))) : G (T.setTop (mkF m pc Ls (.int y :: .int x :: st))) := by
  subst hp; exact hst (fun _ kt => XS.imul h hx rfl hd rfl kt) k
theorem o_lmul (hst : OwnCl p e below G) (h : At T m c below) (hx : p.tables.exec = Jvm.exec) {x y : Int64} (hd : decode c.code pc = .ok (.lmul, 1)) (hp : pc + 1 = pc') (k : G (T.setTop (mkF m pc' Ls (.long (x * y) :: st)))) : G (T.setTop (mkF m pc Ls (.long y :: .long x :: st))) := by
  subst hp; exact hst (fun _ kt => XS.lmul h hx rfl hd rfl kt) k
theorem o_iand (hst : OwnCl p e below G) (h : At T m c below) (hx : p.tables.exec = Jvm.exec) {x y : Int32} (hd : decode c.code pc = .ok (.iand, 1)) (hp : pc + 1 = pc') (k : G (T.setTop (mkF m pc' Ls (.int (x &&& y) :: st)))) : G (T.setTop (mkF m pc Ls (.int y :: .int x :: st))) := by
  subst hp; exact hst (fun _ kt => XS.iand h hx rfl hd rfl kt) k
theorem o_land (hst : OwnCl p e below G) (h : At T m c below) (hx : p.tables.exec = Jvm.exec) {x y : Int64} (hd : decode c.code pc = .ok (.land, 1)) (hp : pc + 1 = pc') (k : G (T.setTop (mkF m pc' Ls (.long (x &&& y) :: st)))) : G (T.setTop (mkF m pc Ls (.long y :: .long x :: st))) := by
  subst hp; exact hst (fun _ kt => XS.land h hx rfl hd rfl kt) k
theorem o_ior (hst : OwnCl p e below G) (h : At T m c below) (hx : p.tables.exec = Jvm.exec) {x y : Int32} (hd : decode c.code pc = .ok (.ior, 1)) (hp : pc + 1 = pc') (k : G (T.setTop (mkF m pc' Ls (.int (x ||| y) :: st)))) : G (T.setTop (mkF m pc Ls (.int y :: .int x :: st))) := by
  subst hp; exact hst (fun _ kt => XS.ior h hx rfl hd rfl kt) k
theorem o_lor (hst : OwnCl p e below G) (h : At T m c below) (hx : p.tables.exec = Jvm.exec) {x y : Int64} (hd : decode c.code pc = .ok (.lor, 1)) (hp : pc + 1 = pc') (k : G (T.setTop (mkF m pc' Ls (.long (x ||| y) :: st)))) : G (T.setTop (mkF m pc Ls (.long y :: .long x :: st))) := by
  subst hp; exact hst (fun _ kt => XS.lor h hx rfl hd rfl kt) k
theorem o_ixor (hst : OwnCl p e below G) (h : At T m c below) (hx : p.tables.exec = Jvm.exec) {x y : Int32} (hd : decode c.code pc = .ok (.ixor, 1)) (hp : pc + 1 = pc') (k : G (T.setTop (mkF m pc' Ls (.int (x ^^^ y) :: st)))) : G (T.setTop (mkF m pc Ls (.int y :: .int x :: st))) := by
  subst hp; exact hst (fun _ kt => XS.ixor h hx rfl hd rfl kt) k
theorem o_lxor (hst : OwnCl p e below G) (h : At T m c below) (hx : p.tables.exec = Jvm.exec) {x y : Int64} (hd : decode c.code pc = .ok (.lxor, 1)) (hp : pc + 1 = pc') (k : G (T.setTop (mkF m pc' Ls (.long (x ^^^ y) :: st)))) : G (T.setTop (mkF m pc Ls (.long y :: .long x :: st))) := by
  subst hp; exact hst (fun _ kt => XS.lxor h hx rfl hd rfl kt) k
theorem o_ineg (hst : OwnCl p e below G) (h : At T m c below) (hx : p.tables.exec = Jvm.exec) {x : Int32} (hd : decode c.code pc = .ok (.ineg, 1)) (hp : pc + 1 = pc') (k : G (T.setTop (mkF m pc' Ls (.int (-x) :: st)))) : G (T.setTop (mkF m pc Ls (.int x :: st))) := by
  subst hp; exact hst (fun _ kt => XS.ineg h hx rfl hd rfl kt) k
theorem o_lneg (hst : OwnCl p e below G) (h : At T m c below) (hx : p.tables.exec = Jvm.exec) {x : Int64} (hd : decode c.code pc = .ok (.lneg, 1)) (hp : pc + 1 = pc') (k : G (T.setTop (mkF m pc' Ls (.long (-x) :: st)))) : G (T.setTop (mkF m pc Ls (.long x :: st))) := by
  subst hp; exact hst (fun _ kt => XS.lneg h hx rfl hd rfl kt) k
theorem o_i2l (hst : OwnCl p e below G) (h : At T m c below) (hx : p.tables.exec = Jvm.exec) {x : Int32} (hd : decode c.code pc = .ok (.i2l, 1)) (hp : pc + 1 = pc') (k : G (T.setTop (mkF m pc' Ls (.long (x.toInt64) :: st)))) : G (T.setTop (mkF m pc Ls (.int x :: st))) := by
  subst hp; exact hst (fun _ kt => XS.i2l h hx rfl hd rfl kt) k
theorem o_l2i (hst : OwnCl p e below G) (h : At T m c below) (hx : p.tables.exec = Jvm.exec) {x : Int64} (hd : decode c.code pc = .ok (.l2i, 1)) (hp : pc + 1 = pc') (k : G (T.setTop (mkF m pc' Ls (.int (x.toInt32) :: st)))) : G (T.setTop (mkF m pc Ls (.long x :: st))) := by
  subst hp; exact hst (fun _ kt => XS.l2i h hx rfl hd rfl kt) k
theorem o_i2b (hst : OwnCl p e below G) (h : At T m c below) (hx : p.tables.exec = Jvm.exec) {x : Int32} (hd : decode c.code pc = .ok (.i2b, 1)) (hp : pc + 1 = pc') (k : G (T.setTop (mkF m pc' Ls (.int (x.toInt8.toInt32) :: st)))) : G (T.setTop (mkF m pc Ls (.int x :: st))) := by
  subst hp; exact hst (fun _ kt => XS.i2b h hx rfl hd rfl kt) k
theorem o_i2s (hst : OwnCl p e below G) (h : At T m c below) (hx : p.tables.exec = Jvm.exec) {x : Int32} (hd : decode c.code pc = .ok (.i2s, 1)) (hp : pc + 1 = pc') (k : G (T.setTop (mkF m pc' Ls (.int (x.toInt16.toInt32) :: st)))) : G (T.setTop (mkF m pc Ls (.int x :: st))) := by
  subst hp; exact hst (fun _ kt => XS.i2s h hx rfl hd rfl kt) k
theorem o_i2c (hst : OwnCl p e below G) (h : At T m c below) (hx : p.tables.exec = Jvm.exec) {x : Int32} (hd : decode c.code pc = .ok (.i2c, 1)) (hp : pc + 1 = pc') (k : G (T.setTop (mkF m pc' Ls (.int (x.toUInt32.toUInt16.toUInt32.toInt32) :: st)))) : G (T.setTop (mkF m pc Ls (.int x :: st))) := by
  subst hp; exact hst (fun _ kt => XS.i2c h hx rfl hd rfl kt) k
theorem o_ishl (hst : OwnCl p e below G) (h : At T m c below) (hx : p.tables.exec = Jvm.exec) {x : Int32} {y : Int32} (hd : decode c.code pc = .ok (.ishl, 1)) (hp : pc + 1 = pc') (k : G (T.setTop (mkF m pc' Ls (.int (x <<< (y &&& 31)) :: st)))) : G (T.setTop (mkF m pc Ls (.int y :: .int x :: st))) := by
  subst hp; exact hst (fun _ kt => XS.ishl h hx rfl hd rfl kt) k
theorem o_ishr (hst : OwnCl p e below G) (h : At T m c below) (hx : p.tables.exec = Jvm.exec) {x : Int32} {y : Int32} (hd : decode c.code pc = .ok (.ishr, 1)) (hp : pc + 1 = pc') (k : G (T.setTop (mkF m pc' Ls (.int (x >>> (y &&& 31)) :: st)))) : G (T.setTop (mkF m pc Ls (.int y :: .int x :: st))) := by
  subst hp; exact hst (fun _ kt => XS.ishr h hx rfl hd rfl kt) k
theorem o_iushr (hst : OwnCl p e below G) (h : At T m c below) (hx : p.tables.exec = Jvm.exec) {x : Int32} {y : Int32} (hd : decode c.code pc = .ok (.iushr, 1)) (hp : pc + 1 = pc') (k : G (T.setTop (mkF m pc' Ls (.int ((x.toUInt32 >>> (y &&& 31).toUInt32).toInt32) :: st)))) : G (T.setTop (mkF m pc Ls (.int y :: .int x :: st))) := by
  subst hp; exact hst (fun _ kt => XS.iushr h hx rfl hd rfl kt) k
theorem o_lshl (hst : OwnCl p e below G) (h : At T m c below) (hx : p.tables.exec = Jvm.exec) {x : Int64} {y : Int32} (hd : decode c.code pc = .ok (.lshl, 1)) (hp : pc + 1 = pc') (k : G (T.setTop (mkF m pc' Ls (.long (x <<< (y &&& 0x3f).toInt64) :: st)))) : G (T.setTop (mkF m pc Ls (.int y :: .long x :: st))) := by
  subst hp; exact hst (fun _ kt => XS.lshl h hx rfl hd rfl kt) k
theorem o_lshr (hst : OwnCl p e below G) (h : At T m c below) (hx : p.tables.exec = Jvm.exec) {x : Int64} {y : Int32} (hd : decode c.code pc = .ok (.lshr, 1)) (hp : pc + 1 = pc') (k : G (T.setTop (mkF m pc' Ls (.long (x >>> (y &&& 0x3f).toInt64) :: st)))) : G (T.setTop (mkF m pc Ls (.int y :: .long x :: st))) := by
  subst hp; exact hst (fun _ kt => XS.lshr h hx rfl hd rfl kt) k
theorem o_lushr (hst : OwnCl p e below G) (h : At T m c below) (hx : p.tables.exec = Jvm.exec) {x : Int64} {y : Int32} (hd : decode c.code pc = .ok (.lushr, 1)) (hp : pc + 1 = pc') (k : G (T.setTop (mkF m pc' Ls (.long ((x.toUInt64 >>> (y &&& 0x3f).toInt64.toUInt64).toInt64) :: st)))) : G (T.setTop (mkF m pc Ls (.int y :: .long x :: st))) := by
  subst hp; exact hst (fun _ kt => XS.lushr h hx rfl hd rfl kt) k
theorem o_lcmp (hst : OwnCl p e below G) (h : At T m c below) (hx : p.tables.exec = Jvm.exec) {x y : Int64} (hd : decode c.code pc = .ok (.lcmp, 1)) (hp : pc + 1 = pc') (k : G (T.setTop (mkF m pc' Ls (.int (lcmpW x y) :: st)))) : G (T.setTop (mkF m pc Ls (.long y :: .long x :: st))) := by
  subst hp; exact hst (fun _ kt => XS.lcmp h hx rfl hd rfl kt) k
theorem o_iinc (hst : OwnCl p e below G) (h : At T m c below) (hx : p.tables.exec = Jvm.exec) {n : Nat} {i : Int} {v : Int32} (hd : decode c.code pc = .ok (.iinc n i, 3)) (hp : pc + 3 = pc') (hl : Ls[n]? = some (.val (.int v))) (hs : storeLocals Ls n (.int (v + Int32.ofInt i)) = some Lt) (k : G (T.setTop (mkF m pc' Lt (st)))) : G (T.setTop (mkF m pc Ls (st))) := by
  subst hp; exact hst (fun _ kt => XS.iinc h hx rfl hd hl hs kt) k
theorem o_dup (hst : OwnCl p e below G) (h : At T m c below) (hx : p.tables.exec = Jvm.exec) {v : Value} (hd : decode c.code pc = .ok (.dup, 1)) (hp : pc + 1 = pc') (hc : v.category = 1) (k : G (T.setTop (mkF m pc' Ls (v :: v :: st)))) : G (T.setTop (mkF m pc Ls (v :: st))) := by
  subst hp; exact hst (fun _ kt => XS.dup h hx rfl hd rfl hc kt) k
theorem o_pop (hst : OwnCl p e below G) (h : At T m c below) (hx : p.tables.exec = Jvm.exec) {v : Value} (hd : decode c.code pc = .ok (.pop, 1)) (hp : pc + 1 = pc') (hc : v.category = 1) (k : G (T.setTop (mkF m pc' Ls (st)))) : G (T.setTop (mkF m pc Ls (v :: st))) := by
  subst hp; exact hst (fun _ kt => XS.pop h hx rfl hd rfl hc kt) k
theorem o_goto (hst : OwnCl p e below G) (h : At T m c below) (hx : p.tables.exec = Jvm.exec) {o : Int} (hd : decode c.code pc = .ok (.goto o, 3)) (ho : 0 ≤ (pc : Int) + o) (hp : ((pc : Int) + o).toNat = pc') (k : G (T.setTop (mkF m pc' Ls st))) : G (T.setTop (mkF m pc Ls st)) := hst (fun _ kt => XS.goto h hx rfl rfl hd ho hp kt) k
end OwnStep
abbrev own_BF : String := "com/example/splitpoint/splitpoint/placement/BucketFunction"
abbrev own_dBF : String := "Lcom/example/splitpoint/splitpoint/placement/BucketFunction;"
section OwnFl
theorem own_qdef (f : FP.Core.Fmt) (A B : Nat) (e : Int) : FP.Core.quantum f A B e = max f.qmin (FP.Core.leading A B + e - ((f.p : Int) - 1)) := rfl
theorem own_rrdef (f : FP.Core.Fmt) (s : Bool) {A : Nat} (B : Nat) (e : Int) (h : ¬ A = 0) : FP.Core.roundRatio f s A B e = FP.Core.settle f s (FP.Core.nearest (A * 2 ^ (e - FP.Core.quantum f A B e).toNat) (B * 2 ^ (FP.Core.quantum f A B e - e).toNat)) (FP.Core.quantum f A B e) := if_neg h
theorem own_settle1 {N : Nat} {q : Int} (h : N < 2 ^ 53) (hq : q ≤ 971) : FP.Core.settle FP.Core.b64 false N q = .fin false N q := by
  have hm : FP.Core.b64.qmax = 971 := by decide
  have e : FP.Core.settle FP.Core.b64 false N q = FP.Core.bound FP.Core.b64 false N q := if_pos h
  have e2 : FP.Core.bound FP.Core.b64 false N q = .fin false N q := if_pos (by rw [hm]; exact hq)
  rw [e, e2]
theorem own_settle2 {N : Nat} {q : Int} (h : ¬ N < 2 ^ 53) (hq : q + 1 ≤ 971) : FP.Core.settle FP.Core.b64 false N q = .fin false (2 ^ 52) (q + 1) := by
  have hm : FP.Core.b64.qmax = 971 := by decide
  have e : FP.Core.settle FP.Core.b64 false N q = FP.Core.bound FP.Core.b64 false (2 ^ 52) (q + 1) := if_neg h
  have e2 : FP.Core.bound FP.Core.b64 false (2 ^ 52) (q + 1) = .fin false (2 ^ 52) (q + 1) := if_pos (by rw [hm]; exact hq)
  rw [e, e2]
/-- a ratio from 1 on, rounded: what is known of its whole part -/
theorem own_rd {A B : Nat} (hA : 0 < A) (hB : 0 < B) (h1 : B ≤ A) (h2 : A < B * 2 ^ 100) :
    ∃ (c : Nat) (q : Int), FP.Core.roundRatio FP.Core.b64 false A B 0 = .fin false c q ∧
      (∀ m : Nat, m ≤ 2 ^ 53 → m * B ≤ A → m ≤ c * 2 ^ q.toNat / 2 ^ (-q).toNat) ∧
      (∀ m : Nat, A < m * B → (∀ L : Nat, B * 2 ^ L ≤ A → L ≤ 51 ∧ B < 2 ^ (53 - L)) → c * 2 ^ q.toNat / 2 ^ (-q).toNat < m) := by
  obtain ⟨l1, l2⟩ := FP.Core.leading_spec hA hB
  have l0 : ¬ FP.Core.Below A B 0 := by
    show ¬ (A * 2 ^ (-(0 : Int)).toNat < B * 2 ^ (0 : Int).toNat)
    have e1 : (-(0 : Int)).toNat = 0 := rfl
    have e2 : (0 : Int).toNat = 0 := rfl
    rw [e1, e2, Nat.pow_zero, Nat.mul_one, Nat.mul_one]; omega
  have l3 : FP.Core.Below A B 100 := by
    show A * 2 ^ (-(100 : Int)).toNat < B * 2 ^ (100 : Int).toNat
    have e1 : (-(100 : Int)).toNat = 0 := rfl
    have e2 : (100 : Int).toNat = 100 := rfl
    rw [e1, e2, Nat.pow_zero, Nat.mul_one]; exact h2
  have hL0 := FP.Core.lt_of_below l0 l2
  have hL1 := FP.Core.lt_of_below l1 l3
  have hq : FP.Core.quantum FP.Core.b64 A B 0 = FP.Core.leading A B - 52 := by
    rw [own_qdef]
    have e : FP.Core.b64.qmin = -1074 := by decide
    have ep : (FP.Core.b64.p : Int) = 53 := rfl
    rw [e, ep]; omega
  have hN := FP.Core.nearest_units_le (f := FP.Core.b64) hA hB 0
  have hr := own_rrdef FP.Core.b64 false B 0 (Nat.pos_iff_ne_zero.mp hA)
  rw [hq] at hN hr
  obtain ⟨n, hn⟩ : ∃ n : Nat, FP.Core.leading A B = n := ⟨(FP.Core.leading A B).toNat, by omega⟩
  rw [hn] at hN hr hL1 l1
  have e1 : (0 - ((n : Int) - 52)).toNat = 52 - n := by omega
  have e2 : ((n : Int) - 52 - 0).toNat = n - 52 := by omega
  have hN : FP.Core.nearest (A * 2 ^ (52 - n)) (B * 2 ^ (n - 52)) ≤ 2 ^ 53 := by
    have z : FP.Core.nearest (A * 2 ^ (0 - ((n : Int) - 52)).toNat) (B * 2 ^ ((n : Int) - 52 - 0).toNat) ≤ 2 ^ 53 := hN
    rw [e1, e2] at z; exact z
  rw [e1, e2] at hr
  have hV : 0 < B * 2 ^ (n - 52) := Nat.mul_pos hB (Nat.two_pow_pos _)
  have lb : ∀ M : Nat, M * (B * 2 ^ (n - 52)) ≤ A * 2 ^ (52 - n) → M ≤ FP.Core.nearest (A * 2 ^ (52 - n)) (B * 2 ^ (n - 52)) := fun M h => FP.Core.nearest_ge hV h
  have sp := (FP.Core.nearest_spec (A * 2 ^ (52 - n)) (B * 2 ^ (n - 52)) hV).2.1
  have hU : B * 2 ^ n ≤ A := by
    have z : ¬ (A * 2 ^ (-(n : Int)).toNat < B * 2 ^ (n : Int).toNat) := l1
    have z1 : (-(n : Int)).toNat = 0 := by omega
    have z2 : (n : Int).toNat = n := by omega
    rw [z1, z2, Nat.pow_zero, Nat.mul_one] at z; omega
  obtain ⟨N, hNe⟩ : ∃ N, FP.Core.nearest (A * 2 ^ (52 - n)) (B * 2 ^ (n - 52)) = N := ⟨_, rfl⟩
  rw [hNe] at hr hN lb sp
  have LB : ∀ m : Nat, m ≤ 2 ^ 53 → m * B ≤ A → m ≤ N * 2 ^ (n - 52) / 2 ^ (52 - n) := by
    intro m hm hmB
    by_cases c : n ≤ 52
    · have z : n - 52 = 0 := by omega
      have lb' := lb (m * 2 ^ (52 - n))
      rw [z, Nat.pow_zero, Nat.mul_one] at lb'
      rw [z, Nat.pow_zero, Nat.mul_one, Nat.le_div_iff_mul_le (Nat.two_pow_pos _)]
      refine lb' ?_
      calc m * 2 ^ (52 - n) * B = m * B * 2 ^ (52 - n) := by ac_rfl
        _ ≤ A * 2 ^ (52 - n) := Nat.mul_le_mul_right _ hmB
    · have z : 52 - n = 0 := by omega
      have lb' := lb (2 ^ 52)
      rw [z, Nat.pow_zero, Nat.mul_one] at lb'
      rw [z, Nat.pow_zero, Nat.div_one]
      have g : 2 ^ 52 ≤ N := by
        refine lb' ?_
        have e : 2 ^ 52 * (B * 2 ^ (n - 52)) = B * 2 ^ n := by
          rw [show n = 52 + (n - 52) by omega, Nat.pow_add, show 52 + (n - 52) - 52 = n - 52 by omega]; ac_rfl
        rw [e]; exact hU
      have g2 : 2 ≤ 2 ^ (n - 52) := by
        rw [show n - 52 = 1 + (n - 53) by omega, Nat.pow_add]
        have := Nat.two_pow_pos (n - 53); omega
      have g3 := Nat.mul_le_mul g g2
      omega
  have UB : ∀ m : Nat, A < m * B → (∀ L : Nat, B * 2 ^ L ≤ A → L ≤ 51 ∧ B < 2 ^ (53 - L)) → N * 2 ^ (n - 52) / 2 ^ (52 - n) < m := by
    intro m hm hc
    obtain ⟨c1, c2⟩ := hc n hU
    have z : n - 52 = 0 := by omega
    rw [z, Nat.pow_zero, Nat.mul_one] at sp
    rw [z, Nat.pow_zero, Nat.mul_one, Nat.div_lt_iff_lt_mul (Nat.two_pow_pos _)]
    refine Nat.lt_of_not_le fun hge => ?_
    rw [show 53 - n = (52 - n) + 1 by omega, Nat.pow_succ] at c2
    obtain ⟨P, hP⟩ : ∃ P, 2 ^ (52 - n) = P := ⟨_, rfl⟩
    rw [hP] at sp c2 hge
    have s1 : (A + 1) * P ≤ m * B * P := Nat.mul_le_mul_right _ hm
    have s2 : m * P * B ≤ N * B := Nat.mul_le_mul_right _ hge
    have s3 : m * B * P = m * P * B := by ac_rfl
    have s4 : (A + 1) * P = A * P + P := Nat.succ_mul A P
    have s5 : 2 * N * B = 2 * (N * B) := Nat.mul_assoc _ _ _
    omega
  by_cases hc : N < 2 ^ 53
  · refine ⟨N, (n : Int) - 52, hr.trans (own_settle1 hc (by omega)), ?_⟩
    have e3 : ((n : Int) - 52).toNat = n - 52 := by omega
    have e4 : (-((n : Int) - 52)).toNat = 52 - n := by omega
    rw [e3, e4]; exact ⟨LB, UB⟩
  · refine ⟨2 ^ 52, (n : Int) - 52 + 1, hr.trans (own_settle2 hc (by omega)), ?_⟩
    have hN2 : N = 2 ^ 53 := by omega
    have e5 : 2 ^ 52 * 2 ^ ((n : Int) - 52 + 1).toNat / 2 ^ (-((n : Int) - 52 + 1)).toNat = N * 2 ^ (n - 52) / 2 ^ (52 - n) := by
      rw [hN2]
      by_cases c : n ≤ 51
      · have e3 : ((n : Int) - 52 + 1).toNat = 0 := by omega
        have e4 : (-((n : Int) - 52 + 1)).toNat = 51 - n := by omega
        have e6 : n - 52 = 0 := by omega
        have e7 : 2 ^ (52 - n) = 2 ^ (51 - n) * 2 := by rw [show 52 - n = (51 - n) + 1 by omega, Nat.pow_succ]
        have e8 : (2 : Nat) ^ 53 = 2 ^ 52 * 2 := by decide
        rw [e3, e4, e6, e7, e8, Nat.pow_zero, Nat.mul_one, Nat.mul_one]
        exact (Nat.mul_div_mul_right _ _ (by decide)).symm
      · have e3 : ((n : Int) - 52 + 1).toNat = (n - 52) + 1 := by omega
        have e4 : (-((n : Int) - 52 + 1)).toNat = 0 := by omega
        have e6 : 52 - n = 0 := by omega
        have e7 : 2 ^ ((n - 52) + 1) = 2 ^ (n - 52) * 2 := Nat.pow_succ 2 (n - 52)
        have e8 : (2 : Nat) ^ 53 = 2 ^ 52 * 2 := by decide
        have e9 : 2 ^ 52 * (2 ^ (n - 52) * 2) = 2 ^ 52 * 2 * 2 ^ (n - 52) := by ac_rfl
        rw [e3, e4, e6, e7, e8, e9]
    rw [e5]; exact ⟨LB, UB⟩
theorem own_quot {c d : Nat} {q r : Int} (hd : ¬ d = 0) : FP.Core.quotient FP.Core.b64 (.fin false c q) (.fin false d r) = FP.Core.roundRatio FP.Core.b64 false c d (q - r) := if_neg hd
/-- a long from 1 to 2^31 as a double -/
theorem own_l2d {a : Int64} (h1 : 1 ≤ a.toInt) (h2 : a.toInt ≤ 2147483648) : ∃ (c : Nat) (q : Int), FP.Core.val64 (FP.l2d a) = .fin false c q ∧ c * 2 ^ q.toNat = a.toInt.toNat * 2 ^ (-q).toNat ∧ 0 < c ∧ c < 2 ^ 53 ∧ -53 < q ∧ q ≤ 971 ∧ 2 ^ 52 ≤ c := by
  have hW : FP.Core.Whole a.toInt (FP.Core.val64 (FP.l2d a)) := FP.Core.l2d_int (by omega)
  have hF := FP.Core.val64_fits (FP.l2d a)
  cases e : FP.Core.val64 (FP.l2d a) with
  | nan => rw [e] at hW; exact hW.elim
  | inf s => rw [e] at hW; exact hW.elim
  | fin s c q =>
    rw [e] at hW hF
    have hs : s = false := by rw [FP.Core.whole_sign hW (by omega)]; exact decide_eq_false (by omega)
    subst hs
    have hn := FP.Core.whole_natAbs hW
    rw [show a.toInt.natAbs = a.toInt.toNat by omega] at hn
    obtain ⟨f1, f2, f3, f4⟩ := hF
    have f1 : c < 2 ^ 53 := f1
    have eq1 : FP.Core.b64.qmin = -1074 := by decide
    have eq2 : FP.Core.b64.qmax = 971 := by decide
    have eq3 : FP.Core.b64.tails = 2 ^ 52 := by decide
    rw [eq1] at f2 f4
    rw [eq2] at f3
    rw [eq3] at f4
    have ha : 1 ≤ a.toInt.toNat := by omega
    have hc0 : 0 < c := by
      refine Nat.pos_of_ne_zero fun z => ?_
      rw [z, Nat.zero_mul] at hn
      have := Nat.mul_pos ha (Nat.two_pow_pos (-q).toNat)
      omega
    have hq : -53 < q := by
      refine Int.lt_of_not_ge fun z => ?_
      have z1 : q.toNat = 0 := by omega
      rw [z1, Nat.pow_zero, Nat.mul_one] at hn
      have z2 : 2 ^ 53 ≤ 2 ^ (-q).toNat := Nat.pow_le_pow_right (by decide) (by omega)
      have z3 := Nat.mul_le_mul ha z2
      omega
    refine ⟨c, q, rfl, hn, hc0, f1, hq, f3, ?_⟩
    rcases f4 with f4 | f4
    · omega
    · exact f4
theorem own_nn {x : UInt64} {c : Nat} {q : Int} (h : FP.Core.val64 x = .fin false c q) : Jvm.Free.Fl.NoNaN64 x := by
  refine Jvm.Free.Fl.noNaN64_no.mpr ?_
  cases e : FP.Core.dIsNaN x with
  | false => rfl
  | true => rw [FP.Core.dIsNaN_iff, h] at e; cases e
theorem own_c31 : FP.Core.val64 (4746794007248502784 : UInt64) = .fin false (2 ^ 52) (-21) := by decide +kernel
theorem own_d2l {x : UInt64} {c : Nat} {q : Int} (h : FP.Core.val64 x = .fin false c q) : (FP.d2l x).toInt = min 9223372036854775807 ((c * 2 ^ q.toNat / 2 ^ (-q).toNat : Nat) : Int) := by
  have e : FP.d2l x = Int64.ofInt (FP.Core.toInt (-2 ^ 63) (2 ^ 63 - 1) (FP.Core.val64 x)) := rfl
  rw [e, h]
  obtain ⟨T, hT⟩ : ∃ T : Int, ((c * 2 ^ q.toNat / 2 ^ (-q).toNat : Nat) : Int) = T := ⟨_, rfl⟩
  have hT0 : 0 ≤ T := by rw [← hT]; exact Int.natCast_nonneg _
  have e2 : FP.Core.toInt (-2 ^ 63) (2 ^ 63 - 1) (.fin false c q) = max (-2 ^ 63) (min (2 ^ 63 - 1) T) := by rw [← hT]; rfl
  have z : ((2 : Int) ^ 63 - 1) = 9223372036854775807 := by decide
  have hM0 : 0 ≤ min 9223372036854775807 T := Int.le_min.mpr ⟨by decide, hT0⟩
  have hM1 : min 9223372036854775807 T ≤ 9223372036854775807 := Int.min_le_left _ _
  rw [e2, z, hT, Int.max_eq_right (Int.le_trans (by decide) hM0)]
  exact Int64.toInt_ofInt_of_le (Int.le_trans (by decide) hM0) (Int.lt_of_le_of_lt hM1 (by decide))
end OwnFl
/-- the next place of a jump -/
def own_st (x : Int64) : Int64 := (x * (2862933555777941757 : Int64)) + (1 : Int64)
def own_s (x : Int64) : Int64 := ((x.toUInt64 >>> ((33 : Int32) &&& 0x3f).toInt64.toUInt64).toInt64) + (1 : Int64)
theorem own_s_rng (x : Int64) : 1 ≤ (own_s x).toInt ∧ (own_s x).toInt ≤ 2147483648 := by
  have h1 := c_lushr x (33 : Int32) 33 (by decide) (by decide)
  simp only [Nat.reducePow] at h1
  have h2 := c_ladd ((x.toUInt64 >>> ((33 : Int32) &&& 0x3f).toInt64.toUInt64).toInt64) (1 : Int64)
  have h3 := Int64.le_toInt (own_s x)
  have h4 := Int64.toInt_lt (own_s x)
  have e1 : (1 : Int64).toInt = 1 := rfl
  unfold own_s at *
  omega
theorem own_inc {b : Int64} (h0 : 0 ≤ b.toInt) (h1 : b.toInt < 2147483648) : (b + (1 : Int64)).toInt = b.toInt + 1 := by
  have h2 := c_ladd b (1 : Int64)
  have h3 := Int64.le_toInt (b + (1 : Int64))
  have h4 := Int64.toInt_lt (b + (1 : Int64))
  have e1 : (1 : Int64).toInt = 1 := rfl
  omega
/-- 2^31 / z is far enough from the next whole number -/
theorem own_cond31 {z : Nat} (hzp : 0 < z) : ∀ L : Nat, z * 2 ^ L ≤ 2147483648 → L ≤ 51 ∧ z < 2 ^ (53 - L) := by
  intro L hL
  have g1 : L ≤ 31 := by
    refine Nat.le_of_not_lt fun c => ?_
    have g2 : 2 ^ 32 ≤ 2 ^ L := Nat.pow_le_pow_right (by decide) c
    have g3 := Nat.mul_le_mul hzp g2
    have g4 : (2 : Nat) ^ 32 = 4294967296 := by decide
    omega
  refine ⟨by omega, ?_⟩
  have g6 : 2 ^ 22 * 2 ^ (31 - L) = 2 ^ (53 - L) := by rw [← Nat.pow_add]; congr 1; omega
  have g7 : z ≤ 2 ^ (31 - L) := by
    have g8 : 2 ^ (31 - L) * 2 ^ L = 2147483648 := by rw [← Nat.pow_add, show 31 - L + L = 31 by omega]
    rw [← g8] at hL
    exact Nat.le_of_mul_le_mul_right hL (Nat.two_pow_pos L)
  have g9 := Nat.two_pow_pos (31 - L)
  rw [← g6]
  have g10 : (2 : Nat) ^ 22 = 4194304 := by decide
  rw [g10]; omega
def own_nx (b s : Int64) : Int64 := FP.d2l (FP.dmul (FP.l2d (b + (1 : Int64))) (FP.ddiv (4746794007248502784 : UInt64) (FP.l2d s)))
theorem own_prod {c d : Nat} {q r : Int} : FP.Core.round FP.Core.b64 (FP.Core.exactProduct (.fin false c q) (.fin false d r)) = FP.Core.roundRatio FP.Core.b64 false (c * d) 1 (q + r) := rfl
theorem own_nxs {b s : Int64} (b0 : 0 ≤ b.toInt) (b1 : b.toInt < 2147483648) (s1 : 1 ≤ s.toInt) (s2 : s.toInt ≤ 2147483648) :
    Jvm.Free.Fl.NoNaN64 (FP.ddiv (4746794007248502784 : UInt64) (FP.l2d s)) ∧ Jvm.Free.Fl.NoNaN64 (FP.dmul (FP.l2d (b + (1 : Int64))) (FP.ddiv (4746794007248502784 : UInt64) (FP.l2d s))) ∧ b.toInt + 1 ≤ (own_nx b s).toInt := by
  have hb := own_inc b0 b1
  have p31 : (2 : Nat) ^ 31 = 2147483648 := by decide
  have p53 : (2 : Nat) ^ 53 = 9007199254740992 := by decide
  have p100 : (2 : Nat) ^ 100 = 1267650600228229401496703205376 := by decide
  obtain ⟨c, q, e, hn, hc, -, -, -, -⟩ := own_l2d s1 s2
  obtain ⟨c0, q0, e0, hn0, hc0, -, -, -, -⟩ := own_l2d (a := b + (1 : Int64)) (by omega) (by omega)
  rw [show (b + (1 : Int64)).toInt.toNat = b.toInt.toNat + 1 by omega] at hn0
  have hz : 1 ≤ s.toInt.toNat := by omega
  have hz2 : s.toInt.toNat ≤ 2147483648 := by omega
  have ha : b.toInt.toNat + 1 ≤ 2147483648 := by omega
  have ha1 : 1 ≤ b.toInt.toNat + 1 := by omega
  have hfin : ((b.toInt.toNat + 1 : Nat) : Int) = b.toInt + 1 := by omega
  obtain ⟨zz, hzz⟩ : ∃ z, s.toInt.toNat = z := ⟨_, rfl⟩
  obtain ⟨aa, haa⟩ : ∃ z, b.toInt.toNat + 1 = z := ⟨_, rfl⟩
  rw [hzz] at hn hz hz2
  rw [haa] at hn0 ha ha1 hfin
  -- the quotient
  obtain ⟨c1, q1, er, LB, UB⟩ := own_rd (A := 2 ^ 31) (B := zz) (by omega) hz (by omega) (by omega)
  have E1 : FP.Core.val64 (FP.ddiv (4746794007248502784 : UInt64) (FP.l2d s)) = .fin false c1 q1 := by
    have z : FP.Core.val64 (FP.ddiv (4746794007248502784 : UInt64) (FP.l2d s)) = FP.Core.quotient FP.Core.b64 (FP.Core.val64 (4746794007248502784 : UInt64)) (FP.Core.val64 (FP.l2d s)) := FP.Core.val64_ddiv _ _
    rw [z, e, own_c31, own_quot (d := c) (by omega), ← er]
    refine FP.Core.roundRatio_congr hc hz ?_
    have hpow : 52 + q.toNat + (-21 - q - 0).toNat = 31 + (0 - (-21 - q)).toNat + (-q).toNat := by omega
    refine Nat.eq_of_mul_eq_mul_right (Nat.two_pow_pos (-q).toNat) ?_
    calc 2 ^ 52 * zz * 2 ^ (-21 - q - 0).toNat * 2 ^ (-q).toNat
        = 2 ^ 52 * (zz * 2 ^ (-q).toNat) * 2 ^ (-21 - q - 0).toNat := by ac_rfl
      _ = 2 ^ 52 * (c * 2 ^ q.toNat) * 2 ^ (-21 - q - 0).toNat := by rw [hn]
      _ = c * 2 ^ (52 + q.toNat + (-21 - q - 0).toNat) := by rw [Nat.pow_add _ (52 + q.toNat), Nat.pow_add _ 52]; ac_rfl
      _ = c * 2 ^ (31 + (0 - (-21 - q)).toNat + (-q).toNat) := by rw [hpow]
      _ = 2 ^ 31 * c * 2 ^ (0 - (-21 - q)).toNat * 2 ^ (-q).toNat := by rw [Nat.pow_add _ (31 + (0 - (-21 - q)).toNat), Nat.pow_add _ 31]; ac_rfl
  have t1 := LB 1 (by omega) (by omega)
  have t2 := UB 2147483649 (by rw [p31]; have := Nat.mul_le_mul_left 2147483649 hz; omega) (by rw [p31]; exact own_cond31 hz)
  rw [Nat.le_div_iff_mul_le (Nat.two_pow_pos _), Nat.one_mul] at t1
  rw [Nat.div_lt_iff_lt_mul (Nat.two_pow_pos _)] at t2
  -- the product
  have hpe : (q0 + q1).toNat + ((-q0).toNat + (-q1).toNat) = (-(q0 + q1)).toNat + (q0.toNat + q1.toNat) := by omega
  have hX : c0 * c1 * 2 ^ (q0 + q1).toNat * 2 ^ ((-q0).toNat + (-q1).toNat) = (aa * 2 ^ (-q0).toNat) * (c1 * 2 ^ q1.toNat) * 2 ^ (-(q0 + q1)).toNat := by
    calc c0 * c1 * 2 ^ (q0 + q1).toNat * 2 ^ ((-q0).toNat + (-q1).toNat)
        = c0 * c1 * 2 ^ ((q0 + q1).toNat + ((-q0).toNat + (-q1).toNat)) := by rw [Nat.mul_assoc, ← Nat.pow_add]
      _ = c0 * c1 * 2 ^ ((-(q0 + q1)).toNat + (q0.toNat + q1.toNat)) := by rw [hpe]
      _ = (c0 * 2 ^ q0.toNat) * (c1 * 2 ^ q1.toNat) * 2 ^ (-(q0 + q1)).toNat := by rw [Nat.pow_add, Nat.pow_add]; ac_rfl
      _ = (aa * 2 ^ (-q0).toNat) * (c1 * 2 ^ q1.toNat) * 2 ^ (-(q0 + q1)).toNat := by rw [hn0]
  have hlo : aa * 2 ^ (-(q0 + q1)).toNat ≤ c0 * c1 * 2 ^ (q0 + q1).toNat := by
    refine Nat.le_of_mul_le_mul_right ?_ (Nat.two_pow_pos ((-q0).toNat + (-q1).toNat))
    rw [hX, Nat.pow_add]
    calc aa * 2 ^ (-(q0 + q1)).toNat * (2 ^ (-q0).toNat * 2 ^ (-q1).toNat) = (aa * 2 ^ (-q0).toNat) * 2 ^ (-q1).toNat * 2 ^ (-(q0 + q1)).toNat := by ac_rfl
      _ ≤ (aa * 2 ^ (-q0).toNat) * (c1 * 2 ^ q1.toNat) * 2 ^ (-(q0 + q1)).toNat := Nat.mul_le_mul_right _ (Nat.mul_le_mul_left _ t1)
  have hhi : c0 * c1 * 2 ^ (q0 + q1).toNat < 2 ^ (-(q0 + q1)).toNat * 2 ^ 100 := by
    refine Nat.lt_of_mul_lt_mul_right (a := 2 ^ ((-q0).toNat + (-q1).toNat)) ?_
    rw [hX, Nat.pow_add]
    have g1 : (aa * 2 ^ (-q0).toNat) * (c1 * 2 ^ q1.toNat) ≤ (2147483648 * 2 ^ (-q0).toNat) * (2147483649 * 2 ^ (-q1).toNat) := Nat.mul_le_mul (Nat.mul_le_mul_right _ ha) (Nat.le_of_lt t2)
    have g2 := Nat.mul_le_mul_right (2 ^ (-(q0 + q1)).toNat) g1
    refine Nat.lt_of_le_of_lt g2 ?_
    have g3 : (2147483648 * 2 ^ (-q0).toNat) * (2147483649 * 2 ^ (-q1).toNat) * 2 ^ (-(q0 + q1)).toNat = (2 ^ (-(q0 + q1)).toNat * (2 ^ (-q0).toNat * 2 ^ (-q1).toNat)) * (2147483648 * 2147483649) := by ac_rfl
    have g4 : 2 ^ (-(q0 + q1)).toNat * 2 ^ 100 * (2 ^ (-q0).toNat * 2 ^ (-q1).toNat) = (2 ^ (-(q0 + q1)).toNat * (2 ^ (-q0).toNat * 2 ^ (-q1).toNat)) * 2 ^ 100 := by ac_rfl
    rw [g3, g4]
    refine Nat.mul_lt_mul_of_pos_left (by decide) ?_
    exact Nat.mul_pos (Nat.two_pow_pos _) (Nat.mul_pos (Nat.two_pow_pos _) (Nat.two_pow_pos _))
  have hB := Nat.two_pow_pos (-(q0 + q1)).toNat
  have h1B : 2 ^ (-(q0 + q1)).toNat ≤ aa * 2 ^ (-(q0 + q1)).toNat := Nat.le_mul_of_pos_left _ ha1
  obtain ⟨c2, q2, er2, LB2, -⟩ := own_rd (A := c0 * c1 * 2 ^ (q0 + q1).toNat) (B := 2 ^ (-(q0 + q1)).toNat) (by omega) hB (by omega) hhi
  have E2 : FP.Core.val64 (FP.dmul (FP.l2d (b + (1 : Int64))) (FP.ddiv (4746794007248502784 : UInt64) (FP.l2d s))) = .fin false c2 q2 := by
    have z : FP.Core.val64 (FP.dmul (FP.l2d (b + (1 : Int64))) (FP.ddiv (4746794007248502784 : UInt64) (FP.l2d s))) = FP.Core.round FP.Core.b64 (FP.Core.exactProduct (FP.Core.val64 (FP.l2d (b + (1 : Int64)))) (FP.Core.val64 (FP.ddiv (4746794007248502784 : UInt64) (FP.l2d s)))) := FP.Core.val64_dmul _ _
    rw [z, e0, E1, own_prod, ← er2]
    refine FP.Core.roundRatio_congr (by decide) hB ?_
    have w1 : (q0 + q1 - 0).toNat = (q0 + q1).toNat := by omega
    have w2 : (0 - (q0 + q1)).toNat = (-(q0 + q1)).toNat := by omega
    rw [w1, w2]; ac_rfl
  have hd := own_d2l E2
  have t3 := LB2 aa (by omega) hlo
  refine ⟨own_nn E1, own_nn E2, ?_⟩
  show b.toInt + 1 ≤ (FP.d2l _).toInt
  rw [hd, ← hfin]
  omega
theorem own_prog {b s : Int64} (b0 : 0 ≤ b.toInt) (b1 : b.toInt < 2147483648) (s1 : 1 ≤ s.toInt) (s2 : s.toInt ≤ 2147483648) : b.toInt + 1 ≤ (own_nx b s).toInt := (own_nxs b0 b1 s1 s2).2.2
/-- the loop -/
def own_run : Nat → Int64 → Int64 → Int64 → Int64 → Int64
  | 0, _, b, _, _ => b
  | fu + 1, x, b, j, n => if j < n then own_run fu (own_st x) j (own_nx j (own_s (own_st x))) n else b
theorem own_run_in {fu : Nat} {x b j n : Int64} (h : j < n) : own_run (fu + 1) x b j n = own_run fu (own_st x) j (own_nx j (own_s (own_st x))) n := if_pos h
theorem own_run_out {fu : Nat} {x b j n : Int64} (h : ¬ j < n) : own_run fu x b j n = b := by
  cases fu with
  | zero => rfl
  | succ fu => exact if_neg h
theorem own_step1 {x j n : Int64} (h0 : 0 ≤ j.toInt) (hj : j < n) (hn : n.toInt ≤ 2147483647) : j.toInt + 1 ≤ (own_nx j (own_s (own_st x))).toInt := by
  rw [Int64.lt_iff_toInt_lt] at hj
  exact own_prog h0 (by omega) (own_s_rng _).1 (own_s_rng _).2
theorem own_run_rng : ∀ (fu : Nat) (x b j n : Int64), 0 ≤ j.toInt → n.toInt ≤ 2147483647 → n.toInt - j.toInt ≤ fu → j < n → j.toInt ≤ (own_run fu x b j n).toInt ∧ own_run fu x b j n < n := by
  intro fu
  induction fu with
  | zero => intro x b j n h0 hn hm hj; rw [Int64.lt_iff_toInt_lt] at hj; omega
  | succ fu ih =>
    intro x b j n h0 hn hm hj
    have hp := own_step1 (x := x) h0 hj hn
    rw [own_run_in hj]
    by_cases c : own_nx j (own_s (own_st x)) < n
    · have z := ih (own_st x) j _ n (by omega) hn (by omega) c
      exact ⟨by omega, z.2⟩
    · rw [own_run_out c]; exact ⟨Int.le_refl _, hj⟩
theorem own_run_next : ∀ (fu : Nat) (x b j n n' : Int64), 0 ≤ j.toInt → n'.toInt = n.toInt + 1 → n'.toInt ≤ 2147483647 → own_run fu x b j n' = own_run fu x b j n ∨ own_run fu x b j n' = n := by
  intro fu
  induction fu with
  | zero => intro x b j n n' _ _ _; exact Or.inl rfl
  | succ fu ih =>
    intro x b j n n' h0 he hn
    by_cases c : j < n
    · have cI := Int64.lt_iff_toInt_lt.mp c
      have c' : j < n' := Int64.lt_iff_toInt_lt.mpr (by omega)
      have hp := own_step1 (x := x) h0 c (by omega)
      rw [own_run_in c, own_run_in c']
      exact ih _ _ _ _ _ (by omega) he hn
    · by_cases c' : j < n'
      · have cI := Int64.lt_iff_toInt_lt.mp c'
        have cN : ¬ j.toInt < n.toInt := fun z => c (Int64.lt_iff_toInt_lt.mpr z)
        have ej : j = n := Int64.toInt_inj.mp (by omega)
        have hp := own_step1 (x := x) h0 c' hn
        have hq : ¬ own_nx j (own_s (own_st x)) < n' := fun z => by
          have zI := Int64.lt_iff_toInt_lt.mp z
          omega
        rw [own_run_in c', own_run_out hq]
        exact Or.inr ej
      · rw [own_run_out c, own_run_out c']; exact Or.inl rfl
section OwnLaw
variable {fu : Nat} {key : Int64} {n : Int32}
theorem own_nL (n : Int32) : (n.toInt64).toInt = n.toInt := c_i2l n
theorem own_r0 (hf : 2147483648 ≤ fu) (h1 : 1 ≤ n.toInt) (h2 : n.toInt ≤ 2147483647) : 0 ≤ (own_run fu key (-1 : Int64) (0 : Int64) n.toInt64).toInt ∧ (own_run fu key (-1 : Int64) (0 : Int64) n.toInt64).toInt < n.toInt := by
  have e0 : (0 : Int64).toInt = 0 := rfl
  have eL := own_nL n
  have h := own_run_rng fu key (-1 : Int64) (0 : Int64) n.toInt64 (by omega) (by omega) (by omega) (by rw [Int64.lt_iff_toInt_lt]; omega)
  rw [Int64.lt_iff_toInt_lt] at h
  omega
theorem own_l2i {r : Int64} (h0 : 0 ≤ r.toInt) (h1 : r.toInt ≤ 2147483647) : r.toInt32.toInt = r.toInt := by
  have h := c_l2i r
  have h3 := Int32.le_toInt r.toInt32
  have h4 := Int32.toInt_lt r.toInt32
  omega
end OwnLaw
def own_ab (x : Int64) : Int64 := if x < 0 then -x else x
def own_rm (v : Int64) (n : Int32) : Int64 := v - (v / n.toInt64) * n.toInt64
def own_md (v : Int64) (n : Int32) : Int64 := own_ab (own_rm v n)
theorem own_rem0 {d : Int64} {n : Int32} {k : Int} (hd : d.toInt = n.toInt * k) : own_rm d n = 0 := by
  have h := c_lrem d n.toInt64 n.toInt (own_nL n)
  apply Int64.toInt_inj.mp
  have e0 : (0 : Int64).toInt = 0 := rfl
  rw [e0]
  unfold own_rm
  by_cases c : 0 ≤ d.toInt
  · rw [h.1 c, hd]; exact Int.mul_emod_right _ _
  · have e := Int.mul_emod_right n.toInt (-k)
    rw [h.2 (by omega), hd, ← Int.mul_neg, e, Int.neg_zero]
theorem own_modP (v : Int64) (n : Int32) (h1 : 1 ≤ n.toInt) : (0 ≤ v.toInt → (own_md v n).toInt = v.toInt % n.toInt) ∧ (v.toInt < 0 → (own_md v n).toInt = (-v.toInt) % n.toInt) := by
  have h := c_lrem v n.toInt64 n.toInt (own_nL n)
  have e0 : (0 : Int64).toInt = 0 := rfl
  have e : own_rm v n = v - (v / n.toInt64) * n.toInt64 := rfl
  rw [← e] at h
  unfold own_md own_ab
  have g1 := Int.emod_nonneg v.toInt (show n.toInt ≠ 0 by omega)
  have g2 := Int.emod_nonneg (-v.toInt) (show n.toInt ≠ 0 by omega)
  have g3 := Int.emod_lt_of_pos (-v.toInt) (show 0 < n.toInt by omega)
  have g4 := Int32.toInt_lt n
  refine ⟨fun c => ?_, fun c => ?_⟩
  · have z := h.1 c
    rw [if_neg (by rw [Int64.lt_iff_toInt_lt]; omega)]; exact z
  · have z := h.2 c
    by_cases d : own_rm v n < 0
    · rw [if_pos d]
      have y := c_lneg (own_rm v n)
      have y1 := Int64.le_toInt (-(own_rm v n))
      have y2 := Int64.toInt_lt (-(own_rm v n))
      omega
    · rw [if_neg d]
      rw [Int64.lt_iff_toInt_lt] at d; omega
theorem own_mod {v : Int64} {n : Int32} (h1 : 1 ≤ n.toInt) : 0 ≤ ((own_md v n).toInt32).toInt ∧ ((own_md v n).toInt32).toInt < n.toInt ∧ (¬ v < 0 → own_rm (v - ((own_md v n).toInt32).toInt64) n = 0) ∧ (v < 0 → own_rm (v + ((own_md v n).toInt32).toInt64) n = 0) := by
  obtain ⟨hp, hn⟩ := own_modP v n h1
  have e0 : (0 : Int64).toInt = 0 := rfl
  have g4 := Int32.toInt_lt n
  have v1 := Int64.le_toInt v
  have v2 := Int64.toInt_lt v
  by_cases c : v.toInt < 0
  · have z := hn c
    have g2 := Int.emod_nonneg (-v.toInt) (show n.toInt ≠ 0 by omega)
    have g3 := Int.emod_lt_of_pos (-v.toInt) (show 0 < n.toInt by omega)
    have gd := Int.emod_def (-v.toInt) n.toInt
    have gq := Int.ediv_nonneg (show 0 ≤ -v.toInt by omega) (show 0 ≤ n.toInt by omega)
    have gm := Int.mul_nonneg (show 0 ≤ n.toInt by omega) gq
    have hl := own_l2i (r := own_md v n) (by omega) (by omega)
    refine ⟨by omega, by omega, fun h => ?_, fun _ => ?_⟩
    · rw [Int64.lt_iff_toInt_lt] at h; omega
    · refine own_rem0 (k := -((-v.toInt) / n.toInt)) ?_
      have a1 := c_ladd v ((own_md v n).toInt32).toInt64
      have a2 := c_i2l (own_md v n).toInt32
      have a3 := Int64.le_toInt (v + ((own_md v n).toInt32).toInt64)
      have a4 := Int64.toInt_lt (v + ((own_md v n).toInt32).toInt64)
      rw [Int.mul_neg]
      obtain ⟨Q, hQ⟩ : ∃ Q, n.toInt * (-v.toInt / n.toInt) = Q := ⟨_, rfl⟩
      rw [hQ] at gd gm ⊢
      omega
  · have z := hp (by omega)
    have g2 := Int.emod_nonneg v.toInt (show n.toInt ≠ 0 by omega)
    have g3 := Int.emod_lt_of_pos v.toInt (show 0 < n.toInt by omega)
    have gd := Int.emod_def v.toInt n.toInt
    have gq := Int.ediv_nonneg (show 0 ≤ v.toInt by omega) (show 0 ≤ n.toInt by omega)
    have gm := Int.mul_nonneg (show 0 ≤ n.toInt by omega) gq
    have hl := own_l2i (r := own_md v n) (by omega) (by omega)
    refine ⟨by omega, by omega, fun _ => ?_, fun h => ?_⟩
    · refine own_rem0 (k := v.toInt / n.toInt) ?_
      have a1 := c_lsub v ((own_md v n).toInt32).toInt64
      have a2 := c_i2l (own_md v n).toInt32
      have a3 := Int64.le_toInt (v - ((own_md v n).toInt32).toInt64)
      have a4 := Int64.toInt_lt (v - ((own_md v n).toInt32).toInt64)
      obtain ⟨Q, hQ⟩ : ∃ Q, n.toInt * (v.toInt / n.toInt) = Q := ⟨_, rfl⟩
      rw [hQ] at gd gm ⊢
      omega
    · rw [Int64.lt_iff_toInt_lt] at h; omega
/-- how many digits i has -/
def own_K (i k : Nat) : Prop := k ≤ 31 ∧ i < 2 ^ k ∧ (k = 0 ∨ 2 ^ (k - 1) ≤ i)
def own_NZ (i : Nat) (r : Int32) : Prop := ∃ k : Nat, r.toInt = 32 - (k : Int) ∧ own_K i k
def own_Zi (i : Nat) (n x : Int32) (b : Nat) : Prop := ∃ S : Nat, n.toInt = 31 - (S : Int) ∧ x.toInt = ((i / 2 ^ S : Nat) : Int) ∧ 1 ≤ i / 2 ^ S ∧ i / 2 ^ S < 2 ^ b ∧ S + b ≤ 32
theorem own_Zlt {i : Nat} {n x : Int32} {b s : Nat} (Z : own_Zi i n x b) (hs : s ≤ b) (h : x.toInt < ((2 ^ s : Nat) : Int)) : own_Zi i n x s := by
  obtain ⟨S, h1, h2, h3, h4, h5⟩ := Z
  exact ⟨S, h1, h2, h3, by omega, by omega⟩
theorem own_Zge {i : Nat} {n x n' x' : Int32} {s : Nat} (Z : own_Zi i n x (s + s)) (h : ((2 ^ s : Nat) : Int) ≤ x.toInt) (hn : n'.toInt = n.toInt - (s : Int)) (hx : x'.toInt = x.toInt / ((2 ^ s : Nat) : Int)) : own_Zi i n' x' s := by
  obtain ⟨S, h1, h2, h3, h4, h5⟩ := Z
  have e : i / 2 ^ (S + s) = i / 2 ^ S / 2 ^ s := by rw [Nat.pow_add, Nat.div_div_eq_div_mul]
  have p := Nat.two_pow_pos s
  refine ⟨S + s, by omega, ?_, ?_, ?_, by omega⟩
  · rw [e, hx, h2]; exact (Int.natCast_ediv _ _).symm
  · rw [e, Nat.le_div_iff_mul_le p]; omega
  · rw [e, Nat.div_lt_iff_lt_mul p, ← Nat.pow_add]; exact h4
theorem own_Z0 {x : Int32} (h : (0 : Int32) < x) : own_Zi x.toInt.toNat (31 : Int32) x 32 := by
  rw [Int32.lt_iff_toInt_lt, show (0 : Int32).toInt = 0 from rfl] at h
  have h2 := Int32.toInt_lt x
  have e : (31 : Int32).toInt = 31 := rfl
  refine ⟨0, by omega, ?_, ?_, ?_, by omega⟩
  · rw [Nat.pow_zero, Nat.div_one]; omega
  · rw [Nat.pow_zero, Nat.div_one]; omega
  · rw [Nat.pow_zero, Nat.div_one]; omega
theorem own_Zu {x c : Int32} {s : Nat} (h0 : 0 ≤ x.toInt) (hc : c.toBitVec.toNat % 32 = s) (hs : 0 < s) : ((x.toUInt32 >>> (c &&& 31).toUInt32).toInt32).toInt = x.toInt / ((2 ^ s : Nat) : Int) := by
  have h := c_iushr x c s hc hs
  have h2 := Int32.toInt_lt x
  rw [h]
  congr 1
  omega
theorem own_Zn {n c : Int32} {s : Nat} (h1 : 0 ≤ n.toInt) (h2 : n.toInt ≤ 31) (hc : c.toInt = -(s : Int)) (hs : s ≤ 16) : (n + c).toInt = n.toInt - (s : Int) := by
  have a1 := c_iadd n c
  have a2 := Int32.le_toInt (n + c)
  have a3 := Int32.toInt_lt (n + c)
  omega
theorem own_Zb {i : Nat} {n x : Int32} {b : Nat} (Z : own_Zi i n x b) (hb : 2 ≤ b) : 0 ≤ n.toInt ∧ n.toInt ≤ 31 ∧ 0 ≤ x.toInt := by
  obtain ⟨S, h1, h2, h3, h4, h5⟩ := Z
  omega
theorem own_Zf {i : Nat} {n x : Int32} (Z : own_Zi i n x 2) (hi : i < 2 ^ 31) : own_NZ i (n - ((x.toUInt32 >>> ((1 : Int32) &&& 31).toUInt32).toInt32)) := by
  have hb := own_Zb Z (by decide)
  obtain ⟨S, h1, h2, h3, h4, h5⟩ := Z
  have hu := own_Zu (x := x) (c := (1 : Int32)) (s := 1) hb.2.2 (by decide) (by decide)
  have a1 := c_isub n ((x.toUInt32 >>> ((1 : Int32) &&& 31).toUInt32).toInt32)
  have a2 := Int32.le_toInt (n - ((x.toUInt32 >>> ((1 : Int32) &&& 31).toUInt32).toInt32))
  have a3 := Int32.toInt_lt (n - ((x.toUInt32 >>> ((1 : Int32) &&& 31).toUInt32).toInt32))
  have p := Nat.two_pow_pos S
  have q1 : (2 : Nat) ^ 1 = 2 := rfl
  have q2 : (2 : Nat) ^ 2 = 4 := rfl
  rw [q1] at hu
  rw [q2] at h4
  have lo : ∀ m : Nat, m ≤ i / 2 ^ S → m * 2 ^ S ≤ i := fun m hm => (Nat.le_div_iff_mul_le p).mp hm
  have hi2 : ∀ m : Nat, i / 2 ^ S < m → i < m * 2 ^ S := fun m hm => (Nat.div_lt_iff_lt_mul p).mp hm
  have kb : ∀ k : Nat, 2 ^ (k - 1) ≤ i → 1 ≤ k → k ≤ 31 := fun k hk h1k => by
    refine Nat.le_of_not_lt fun c => ?_
    have z : 2 ^ 31 ≤ 2 ^ (k - 1) := Nat.pow_le_pow_right (by decide) (by omega)
    omega
  have cs : i / 2 ^ S = 1 ∨ i / 2 ^ S = 2 ∨ i / 2 ^ S = 3 := by omega
  by_cases c1 : i / 2 ^ S = 1
  · have l1 := lo 1 (by omega)
    have u1 := hi2 2 (by omega)
    have e2 : 2 ^ (S + 1) = 2 * 2 ^ S := by rw [Nat.pow_succ, Nat.mul_comm]
    refine ⟨S + 1, by omega, kb _ (by rw [Nat.add_sub_cancel]; omega) (by omega), by omega, Or.inr (by rw [Nat.add_sub_cancel]; omega)⟩
  · have l1 := lo 2 (by omega)
    have u1 := hi2 4 (by omega)
    have e2 : 2 ^ (S + 1) = 2 * 2 ^ S := by rw [Nat.pow_succ, Nat.mul_comm]
    have e3 : 2 ^ (S + 2) = 4 * 2 ^ S := by rw [Nat.pow_succ, e2]; omega
    refine ⟨S + 2, by omega, kb _ (by rw [show S + 2 - 1 = S + 1 by omega]; omega) (by omega), by omega, Or.inr (by rw [show S + 2 - 1 = S + 1 by omega]; omega)⟩
def own_Qnz (i : Nat) (c : Int) (h0 : Heap) (n0 : Nat) (v : Option Value) (h : Heap) (L : List Loc) : Prop := ∃ (r : Int32) (k : Nat), v = some (.int r) ∧ Fr n0 L ∧ h = h0 ∧ r.toInt = c - (k : Int) ∧ own_K i k
theorem own_toN32 {q : Int32} {k : Nat} (h : q.toInt = (k : Int)) : q.toBitVec.toNat = k := by
  have e : q.toInt = q.toBitVec.toInt := rfl
  rw [e, BitVec.toInt_eq_toNat_cond] at h
  have := q.toBitVec.isLt
  split at h <;> omega
theorem own_toN64 {q : Int64} {k : Nat} (h : q.toInt = (k : Int)) : q.toBitVec.toNat = k := by
  have e : q.toInt = q.toBitVec.toInt := rfl
  rw [e, BitVec.toInt_eq_toNat_cond] at h
  have := q.toBitVec.isLt
  split at h <;> omega
/-- mask has k ones, i has k digits -/
def own_MK (i : Nat) (mask : Int64) : Prop := ∃ k : Nat, mask.toBitVec.toNat = 2 ^ k - 1 ∧ own_K i k
theorem own_mk {i k : Nat} {r : Int32} (hr : r.toInt = 64 - (k : Int)) (hk : own_K i k) : own_MK i (((1 : Int64) <<< (((64 : Int32) - r) &&& 0x3f).toInt64) - (1 : Int64)) := by
  refine ⟨k, ?_, hk⟩
  have hk31 := hk.1
  have a1 := c_isub (64 : Int32) r
  have a2 := Int32.le_toInt ((64 : Int32) - r)
  have a3 := Int32.toInt_lt ((64 : Int32) - r)
  have e64 : (64 : Int32).toInt = 64 := rfl
  have hb : ((64 : Int32) - r).toInt = (k : Int) := by omega
  have hN := own_toN32 hb
  have s1 := c_lshl (1 : Int64) ((64 : Int32) - r) k (by omega)
  have s2 := c_lsub ((1 : Int64) <<< (((64 : Int32) - r) &&& 0x3f).toInt64) (1 : Int64)
  have b1 := Int64.le_toInt ((1 : Int64) <<< (((64 : Int32) - r) &&& 0x3f).toInt64)
  have b2 := Int64.toInt_lt ((1 : Int64) <<< (((64 : Int32) - r) &&& 0x3f).toInt64)
  have b3 := Int64.le_toInt (((1 : Int64) <<< (((64 : Int32) - r) &&& 0x3f).toInt64) - (1 : Int64))
  have b4 := Int64.toInt_lt (((1 : Int64) <<< (((64 : Int32) - r) &&& 0x3f).toInt64) - (1 : Int64))
  have e1 : (1 : Int64).toInt = 1 := rfl
  have p := Nat.two_pow_pos k
  have p2 : 2 ^ k ≤ 2 ^ 31 := Nat.pow_le_pow_right (by decide) hk31
  have p3 : (2 : Nat) ^ 31 = 2147483648 := by decide
  apply own_toN64
  rw [e1, Int.one_mul] at s1
  obtain ⟨Q, hQ⟩ : ∃ Q, 2 ^ k = Q := ⟨_, rfl⟩
  rw [hQ] at s1 p p2 ⊢
  omega
def own_or (c : Int32) (x : Int64) : Int64 := x ||| ((x.toUInt64 >>> (c &&& 0x3f).toInt64.toUInt64).toInt64)
theorem own_or1 (x : Int64) : (own_or (1 : Int32) x).toBitVec.toNat = x.toBitVec.toNat ||| (x.toBitVec.toNat >>> 1) := by
  have h : ((1 : Int32) &&& 0x3f).toInt64.toUInt64 = (1 : UInt64) := by decide
  have e : (x.toUInt64 >>> (1 : UInt64)).toBitVec = x.toBitVec >>> 1 := by rw [UInt64.toBitVec_shiftRight]; rfl
  unfold own_or
  rw [h]
  show (x.toBitVec ||| (x.toUInt64 >>> (1 : UInt64)).toBitVec).toNat = _
  rw [BitVec.toNat_or, e, BitVec.toNat_ushiftRight]
theorem own_or2 (x : Int64) : (own_or (2 : Int32) x).toBitVec.toNat = x.toBitVec.toNat ||| (x.toBitVec.toNat >>> 2) := by
  have h : ((2 : Int32) &&& 0x3f).toInt64.toUInt64 = (2 : UInt64) := by decide
  have e : (x.toUInt64 >>> (2 : UInt64)).toBitVec = x.toBitVec >>> 2 := by rw [UInt64.toBitVec_shiftRight]; rfl
  unfold own_or
  rw [h]
  show (x.toBitVec ||| (x.toUInt64 >>> (2 : UInt64)).toBitVec).toNat = _
  rw [BitVec.toNat_or, e, BitVec.toNat_ushiftRight]
theorem own_or4 (x : Int64) : (own_or (4 : Int32) x).toBitVec.toNat = x.toBitVec.toNat ||| (x.toBitVec.toNat >>> 4) := by
  have h : ((4 : Int32) &&& 0x3f).toInt64.toUInt64 = (4 : UInt64) := by decide
  have e : (x.toUInt64 >>> (4 : UInt64)).toBitVec = x.toBitVec >>> 4 := by rw [UInt64.toBitVec_shiftRight]; rfl
  unfold own_or
  rw [h]
  show (x.toBitVec ||| (x.toUInt64 >>> (4 : UInt64)).toBitVec).toNat = _
  rw [BitVec.toNat_or, e, BitVec.toNat_ushiftRight]
theorem own_or8 (x : Int64) : (own_or (8 : Int32) x).toBitVec.toNat = x.toBitVec.toNat ||| (x.toBitVec.toNat >>> 8) := by
  have h : ((8 : Int32) &&& 0x3f).toInt64.toUInt64 = (8 : UInt64) := by decide
  have e : (x.toUInt64 >>> (8 : UInt64)).toBitVec = x.toBitVec >>> 8 := by rw [UInt64.toBitVec_shiftRight]; rfl
  unfold own_or
  rw [h]
  show (x.toBitVec ||| (x.toUInt64 >>> (8 : UInt64)).toBitVec).toNat = _
  rw [BitVec.toNat_or, e, BitVec.toNat_ushiftRight]
theorem own_or16 (x : Int64) : (own_or (16 : Int32) x).toBitVec.toNat = x.toBitVec.toNat ||| (x.toBitVec.toNat >>> 16) := by
  have h : ((16 : Int32) &&& 0x3f).toInt64.toUInt64 = (16 : UInt64) := by decide
  have e : (x.toUInt64 >>> (16 : UInt64)).toBitVec = x.toBitVec >>> 16 := by rw [UInt64.toBitVec_shiftRight]; rfl
  unfold own_or
  rw [h]
  show (x.toBitVec ||| (x.toUInt64 >>> (16 : UInt64)).toBitVec).toNat = _
  rw [BitVec.toNat_or, e, BitVec.toNat_ushiftRight]
def own_smN : Nat → Nat → Nat
  | 0, u => u
  | t + 1, u => own_smN t u ||| (own_smN t u >>> 2 ^ t)
theorem own_smN_bit : ∀ (t u i : Nat), (own_smN t u).testBit i = true ↔ ∃ j, j < 2 ^ t ∧ u.testBit (i + j) = true := by
  intro t
  induction t with
  | zero =>
    intro u i
    constructor
    · intro h; exact ⟨0, by decide, h⟩
    · rintro ⟨j, hj, h⟩
      have : j = 0 := by have e : (2 : Nat) ^ 0 = 1 := rfl
                         omega
      subst this; exact h
  | succ t ih =>
    intro u i
    have e : own_smN (t + 1) u = own_smN t u ||| (own_smN t u >>> 2 ^ t) := rfl
    rw [e, Nat.testBit_or, Nat.testBit_shiftRight, Bool.or_eq_true, ih, ih]
    have p : 2 ^ (t + 1) = 2 ^ t + 2 ^ t := by rw [Nat.pow_succ]; omega
    constructor
    · rintro (⟨j, hj, h⟩ | ⟨j, hj, h⟩)
      · exact ⟨j, by omega, h⟩
      · refine ⟨2 ^ t + j, by omega, ?_⟩
        rw [show i + (2 ^ t + j) = 2 ^ t + i + j by omega]; exact h
    · rintro ⟨j, hj, h⟩
      by_cases c : j < 2 ^ t
      · exact Or.inl ⟨j, c, h⟩
      · refine Or.inr ⟨j - 2 ^ t, by omega, ?_⟩
        rw [show 2 ^ t + i + (j - 2 ^ t) = i + j by omega]; exact h
theorem own_top {u j : Nat} (h1 : 2 ^ j ≤ u) (h2 : u < 2 ^ (j + 1)) : u.testBit j = true := by
  rw [Nat.testBit_eq_decide_div_mod_eq, decide_eq_true_iff]
  have p := Nat.two_pow_pos j
  have a : 1 ≤ u / 2 ^ j := (Nat.le_div_iff_mul_le p).mpr (by omega)
  have b : u / 2 ^ j < 2 := (Nat.div_lt_iff_lt_mul p).mpr (by rw [Nat.pow_succ] at h2; omega)
  omega
theorem own_smN_K {u k : Nat} (hk : own_K u k) : own_smN 5 u = 2 ^ k - 1 := by
  obtain ⟨h1, h2, h3⟩ := hk
  apply Nat.eq_of_testBit_eq
  intro i
  rw [Nat.testBit_two_pow_sub_one, Bool.eq_iff_iff, own_smN_bit, decide_eq_true_iff]
  constructor
  · rintro ⟨j, hj, h⟩
    refine Nat.lt_of_not_le fun c => ?_
    have z : u < 2 ^ (i + j) := Nat.lt_of_lt_of_le h2 (Nat.pow_le_pow_right (by decide) (by omega))
    rw [Nat.testBit_lt_two_pow z] at h; cases h
  · intro c
    have e5 : (2 : Nat) ^ 5 = 32 := rfl
    refine ⟨k - 1 - i, by omega, ?_⟩
    rw [show i + (k - 1 - i) = k - 1 by omega]
    rcases h3 with h3 | h3
    · omega
    · by_cases c0 : k = 0
      · omega
      · exact own_top h3 (by rw [show k - 1 + 1 = k by omega]; exact h2)
def own_sm (x : Int64) : Int64 := own_or (16 : Int32) (own_or (8 : Int32) (own_or (4 : Int32) (own_or (2 : Int32) (own_or (1 : Int32) x))))
theorem own_sm_nat (x : Int64) : (own_sm x).toBitVec.toNat = own_smN 5 x.toBitVec.toNat := by
  unfold own_sm
  rw [own_or16, own_or8, own_or4, own_or2, own_or1]
  rfl
theorem own_mask {x mask : Int64} (h0 : 0 ≤ x.toInt) (h : own_MK x.toInt.toNat mask) : mask = own_sm x := by
  obtain ⟨k, e, hk⟩ := h
  apply Int64.toBitVec_inj.mp
  apply BitVec.eq_of_toNat_eq
  have hx : x.toBitVec.toNat = x.toInt.toNat := own_toN64 (by omega)
  rw [e, own_sm_nat, hx, own_smN_K hk]
def own_u1 (x : Int64) : Int64 := (x.toUInt64 >>> ((1 : Int32) &&& 0x3f).toInt64.toUInt64).toInt64
theorem own_u1_nat (x : Int64) : (own_u1 x).toBitVec.toNat = x.toBitVec.toNat >>> 1 := by
  have h : ((1 : Int32) &&& 0x3f).toInt64.toUInt64 = (1 : UInt64) := by decide
  have e : (x.toUInt64 >>> (1 : UInt64)).toBitVec = x.toBitVec >>> 1 := by rw [UInt64.toBitVec_shiftRight]; rfl
  unfold own_u1
  rw [h]
  show ((x.toUInt64 >>> (1 : UInt64)).toBitVec).toNat = _
  rw [e, BitVec.toNat_ushiftRight]
def own_lin (v : Int64) (n : Int32) (mask : Int64) : Int64 := if (v &&& mask) < n.toInt64 then v &&& mask else v &&& own_u1 mask
theorem own_lin_rng {i : Nat} {v : Int64} {n : Int32} {mask : Int64} (h : own_MK i mask) : 0 ≤ (own_lin v n mask).toInt ∧ (own_lin v n mask).toInt ≤ 2147483647 := by
  obtain ⟨k, e, hk⟩ := h
  have hk31 := hk.1
  have p3 : (2 : Nat) ^ 31 = 2147483648 := by decide
  have key : ∀ (m : Int64) (j : Nat), j ≤ 31 → m.toBitVec.toNat = 2 ^ j - 1 → 0 ≤ (v &&& m).toInt ∧ (v &&& m).toInt ≤ 2147483647 := by
    intro m j hj hm
    have z := c_maskL v m j (by omega) hm
    have p := Nat.two_pow_pos j
    have p2 : 2 ^ j ≤ 2 ^ 31 := Nat.pow_le_pow_right (by decide) hj
    have z1 := Int.emod_nonneg v.toInt (show ((2 ^ j : Nat) : Int) ≠ 0 by omega)
    have z2 := Int.emod_lt_of_pos v.toInt (show (0 : Int) < ((2 ^ j : Nat) : Int) by omega)
    omega
  unfold own_lin
  split
  · exact key mask k hk31 e
  · refine key (own_u1 mask) (k - 1) (by omega) ?_
    rw [own_u1_nat, e, Nat.shiftRight_eq_div_pow]
    cases k with
    | zero => rfl
    | succ k =>
      have p := Nat.two_pow_pos k
      have e2 : 2 ^ (k + 1) = 2 * 2 ^ k := by rw [Nat.pow_succ, Nat.mul_comm]
      rw [Nat.add_sub_cancel, e2]; omega
theorem own_back {r : Int64} (h0 : 0 ≤ r.toInt) (h1 : r.toInt ≤ 2147483647) : (r.toInt32).toInt64 = r := by
  apply Int64.toInt_inj.mp
  rw [c_i2l, own_l2i h0 h1]
def own_Qln (v : Int64) (n : Int32) (h0 : Heap) (n0 : Nat) (o : Option Value) (h : Heap) (L : List Loc) : Prop := ∃ mask : Int64, own_MK ((n.toInt64 - (1 : Int64)).toInt.toNat) mask ∧ o = some (.long (own_lin v n mask)) ∧ Fr n0 L ∧ h = h0
def own_Qb1 (v : Int64) (n : Int32) (h0 : Heap) (n0 : Nat) (o : Option Value) (h : Heap) (L : List Loc) : Prop := ∃ mask : Int64, own_MK ((n.toInt64 - (1 : Int64)).toInt.toNat) mask ∧ o = some (.int (own_lin v n mask).toInt32) ∧ Fr n0 L ∧ h = h0
theorem own_n1s {n : Int32} (h : 1 ≤ n.toInt) : (n.toInt64 - (1 : Int64)).toInt = n.toInt - 1 := by
  have a1 := c_lsub n.toInt64 (1 : Int64)
  have a2 := own_nL n
  have a3 := Int64.le_toInt (n.toInt64 - (1 : Int64))
  have a4 := Int64.toInt_lt (n.toInt64 - (1 : Int64))
  have a5 := Int32.toInt_lt n
  have e1 : (1 : Int64).toInt = 1 := rfl
  omega
theorem own_hi {u : Int64} (h0 : 0 ≤ u.toInt) (h1 : u.toInt ≤ 2147483647) : ((u.toUInt64 >>> ((32 : Int32) &&& 0x3f).toInt64.toUInt64).toInt64).toInt32 = 0 := by
  apply Int32.toInt_inj.mp
  have z := c_lushr u (32 : Int32) 32 (by decide) (by decide)
  simp only [Nat.reducePow] at z
  rw [own_l2i (by omega) (by omega), show (0 : Int32).toInt = 0 from rfl]
  omega
theorem own_prev {f0 : Nat} {key : Int64} {n : Int32} (h1 : 2 ≤ n.toInt) : (own_run f0 key (-1 : Int64) (0 : Int64) n.toInt64).toInt32 = (own_run f0 key (-1 : Int64) (0 : Int64) (n - (1 : Int32)).toInt64).toInt32 ∨ (own_run f0 key (-1 : Int64) (0 : Int64) n.toInt64).toInt32 = n - (1 : Int32) := by
  have e1 : (1 : Int32).toInt = 1 := rfl
  have h3 := c_isub n (1 : Int32)
  have h4 := Int32.le_toInt (n - (1 : Int32))
  have h5 := Int32.toInt_lt (n - (1 : Int32))
  have h6 := Int32.toInt_lt n
  have hs : (n - (1 : Int32)).toInt = n.toInt - 1 := by omega
  have e0 : (0 : Int64).toInt = 0 := rfl
  have eL := own_nL n
  have eL' := own_nL (n - (1 : Int32))
  rcases own_run_next f0 key (-1 : Int64) (0 : Int64) (n - (1 : Int32)).toInt64 n.toInt64 (by omega) (by omega) (by omega) with h | h
  · exact Or.inl (by rw [h])
  · refine Or.inr ?_
    rw [h]
    apply Int32.toInt_inj.mp
    rw [own_l2i (by omega) (by omega)]; exact eL'
def own_QI (r : Int32) (h0 : Heap) (n0 : Nat) (v : Option Value) (h : Heap) (L : List Loc) : Prop := v = some (.int r) ∧ Fr n0 L ∧ h = h0
def own_QJ (r : Int64) (h0 : Heap) (n0 : Nat) (v : Option Value) (h : Heap) (L : List Loc) : Prop := v = some (.long r) ∧ Fr n0 L ∧ h = h0
def own_QV (h0 : Heap) (n0 : Nat) (v : Option Value) (h : Heap) (L : List Loc) : Prop := v = none ∧ Fr n0 L ∧ h = h0
def own_Q0 (n0 : Nat) (v : Option Value) (h : Heap) (L : List Loc) : Prop := v = some (.int (1 : Int32)) ∧ Fr n0 L
theorem own_n0 (m : Int32) : 1 ≤ ((1 : Int32) + ((m &&& (2147483647 : Int32)) % (2147483647 : Int32))).toInt ∧ ((1 : Int32) + ((m &&& (2147483647 : Int32)) % (2147483647 : Int32))).toInt ≤ 2147483647 := by
  have h1 := c_mask m 2147483647 31 (by decide) (by decide)
  simp only [Nat.reducePow] at h1
  have h0 := (c_irem (m &&& (2147483647 : Int32)) 2147483647 2147483647 (by decide)).1 (by omega)
  have h2 := c_iadd (1 : Int32) ((m &&& (2147483647 : Int32)) % (2147483647 : Int32))
  have h3 := Int32.le_toInt ((1 : Int32) + ((m &&& (2147483647 : Int32)) % (2147483647 : Int32)))
  have h4 := Int32.toInt_lt ((1 : Int32) + ((m &&& (2147483647 : Int32)) % (2147483647 : Int32)))
  have e1 : (1 : Int32).toInt = 1 := rfl
  omega
section OwnPure
variable {Z : State} {h h' : Heap} {C n d : String} {v : Value} {args : Array Value} {t u w i : Term} {a : Addr}
theorem own_Sta_keep (F : Sta Z h C n d v) (K : Keep h h' []) : Sta Z h' C n d v := by
  obtain ⟨cf, i, k, f, st, cell, h1, h2, h3, h4, h5, r⟩ := F
  exact ⟨cf, i, k, f, st, cell, h1, h2, h3, h4, K.2.1 _ _ h5 nin0, r⟩
theorem own_arh {k : ClassId} {ty : FieldType} {z : Int32} {vs : List Value} {dv : Value} (F : Arv Z h a k ty z vs dv) : Arh Z h a k ty z [] vs dv := F
theorem own_fldI {z : Int32} (hq : (Jvm.Cond.eq (Term.field t C n d) (Term.int z)).value args Z none Z [] = some true) (ev : t.eval args Z none [] Z = some (.ref a)) : Fld Z Z.heap a C n d (.int z) := by
  obtain ⟨x, y, hx, hy, -⟩ := cmp_v (Or.inl hq)
  cases Option.some.inj ((Term.int_eval z).symm.trans hy)
  have e : x = .int z := by
    simp only [Cond.value, hx, hy] at hq
    cases x <;> simp at hq
    rw [hq]
  subst e
  rw [fld_at ev] at hx
  exact Fld.start hx
end OwnPure
theorem own_Sta_keepX {Z : State} {h : Heap} {C n d : String} {v : Value} (F : Sta Z h C n d v) : Sta Z h C n d v := F
theorem own_w0 {Z : State} {a0 : Array Value} (hw : ∀ d ∈ tables_1, d.before a0 Z = true) : Jvm.Cond.before (Jvm.Cond.constant x.cls (7 : Nat) (2147483647 : Int32)) a0 Z = true := hw _ (List.mem_of_getElem? (i := 0) rfl)
theorem own_w1 {Z : State} {a0 : Array Value} (hw : ∀ d ∈ tables_1, d.before a0 Z = true) : Jvm.Cond.before (Jvm.Cond.fieldLink x.cls (8 : Nat) own_BF "MOD" own_dBF) a0 Z = true := hw _ (List.mem_of_getElem? (i := 1) rfl)
theorem own_w2 {Z : State} {a0 : Array Value} (hw : ∀ d ∈ tables_1, d.before a0 Z = true) : Jvm.Cond.before (Jvm.Cond.initialized own_BF) a0 Z = true := hw _ (List.mem_of_getElem? (i := 2) rfl)
theorem own_w3 {Z : State} {a0 : Array Value} (hw : ∀ d ∈ tables_1, d.before a0 Z = true) : Jvm.Cond.before (Jvm.Cond.laysStatic own_BF "MOD" own_dBF) a0 Z = true := hw _ (List.mem_of_getElem? (i := 3) rfl)
theorem own_w4 {Z : State} {a0 : Array Value} (hw : ∀ d ∈ tables_1, d.before a0 Z = true) : Jvm.Cond.before (Jvm.Cond.methodLink x.cls (14 : Nat) ({ cls := own_BF, name := "bucketOf", desc := "(JI)I" } : Jvm.MethodName)) a0 Z = true := hw _ (List.mem_of_getElem? (i := 4) rfl)
theorem own_w5 {Z : State} {a0 : Array Value} (hw : ∀ d ∈ tables_1, d.before a0 Z = true) : Jvm.Cond.before (Jvm.Cond.declares ({ cls := own_BF, name := "bucketOf", desc := "(JI)I" } : Jvm.MethodName)) a0 Z = true := hw _ (List.mem_of_getElem? (i := 5) rfl)
theorem own_w6 {Z : State} {a0 : Array Value} (hw : ∀ d ∈ tables_1, d.before a0 Z = true) : Jvm.Cond.before (Jvm.Cond.instanceMethod ({ cls := own_BF, name := "bucketOf", desc := "(JI)I" } : Jvm.MethodName)) a0 Z = true := hw _ (List.mem_of_getElem? (i := 6) rfl)
theorem own_w7 {Z : State} {a0 : Array Value} (hw : ∀ d ∈ tables_1, d.before a0 Z = true) : Jvm.Cond.before (Jvm.Cond.selects own_BF ({ cls := own_BF, name := "bucketOf", desc := "(JI)I" } : Jvm.MethodName) ({ cls := own_BF, name := "bucketOf", desc := "(JI)I" } : Jvm.MethodName)) a0 Z = true := hw _ (List.mem_of_getElem? (i := 7) rfl)
theorem own_w8 {Z : State} {a0 : Array Value} (hw : ∀ d ∈ tables_1, d.before a0 Z = true) : Jvm.Cond.before (Jvm.Cond.code ({ cls := own_BF, name := "bucketOf", desc := "(JI)I" } : Jvm.MethodName) prog_19_method_6_code (6 : Nat) (Option.some Jvm.ClassFile.FieldType.int)) a0 Z = true := hw _ (List.mem_of_getElem? (i := 8) rfl)
theorem own_w9 {Z : State} {a0 : Array Value} (hw : ∀ d ∈ tables_1, d.before a0 Z = true) : Jvm.Cond.before (Jvm.Cond.methodLink own_BF (68 : Nat) ({ cls := own_BF, name := "checkBucketCount", desc := "(I)V" } : Jvm.MethodName)) a0 Z = true := hw _ (List.mem_of_getElem? (i := 9) rfl)
theorem own_w10 {Z : State} {a0 : Array Value} (hw : ∀ d ∈ tables_1, d.before a0 Z = true) : Jvm.Cond.before (Jvm.Cond.static ({ cls := own_BF, name := "checkBucketCount", desc := "(I)V" } : Jvm.MethodName)) a0 Z = true := hw _ (List.mem_of_getElem? (i := 10) rfl)
theorem own_w11 {Z : State} {a0 : Array Value} (hw : ∀ d ∈ tables_1, d.before a0 Z = true) : Jvm.Cond.before (Jvm.Cond.code ({ cls := own_BF, name := "checkBucketCount", desc := "(I)V" } : Jvm.MethodName) prog_19_method_7_code (1 : Nat) (Option.none : Option Jvm.ClassFile.FieldType)) a0 Z = true := hw _ (List.mem_of_getElem? (i := 11) rfl)
theorem own_w12 {Z : State} {a0 : Array Value} (hw : ∀ d ∈ tables_1, d.before a0 Z = true) : Jvm.Cond.before (Jvm.Cond.methodLink own_BF (72 : Nat) ({ cls := own_BF, name := "ordinal", desc := "()I" } : Jvm.MethodName)) a0 Z = true := hw _ (List.mem_of_getElem? (i := 12) rfl)
theorem own_w13 {Z : State} {a0 : Array Value} (hw : ∀ d ∈ tables_1, d.before a0 Z = true) : Jvm.Cond.before (Jvm.Cond.sameMethod own_BF "java/lang/Enum" "ordinal" "()I") a0 Z = true := hw _ (List.mem_of_getElem? (i := 13) rfl)
theorem own_w14 {Z : State} {a0 : Array Value} (hw : ∀ d ∈ tables_1, d.before a0 Z = true) : Jvm.Cond.before (Jvm.Cond.declares ({ cls := "java/lang/Enum", name := "ordinal", desc := "()I" } : Jvm.MethodName)) a0 Z = true := hw _ (List.mem_of_getElem? (i := 14) rfl)
theorem own_w15 {Z : State} {a0 : Array Value} (hw : ∀ d ∈ tables_1, d.before a0 Z = true) : Jvm.Cond.before (Jvm.Cond.instanceMethod ({ cls := "java/lang/Enum", name := "ordinal", desc := "()I" } : Jvm.MethodName)) a0 Z = true := hw _ (List.mem_of_getElem? (i := 15) rfl)
theorem own_w16 {Z : State} {a0 : Array Value} (hw : ∀ d ∈ tables_1, d.before a0 Z = true) : Jvm.Cond.before (Jvm.Cond.selects own_BF ({ cls := own_BF, name := "ordinal", desc := "()I" } : Jvm.MethodName) ({ cls := "java/lang/Enum", name := "ordinal", desc := "()I" } : Jvm.MethodName)) a0 Z = true := hw _ (List.mem_of_getElem? (i := 16) rfl)
theorem own_w17 {Z : State} {a0 : Array Value} (hw : ∀ d ∈ tables_1, d.before a0 Z = true) : Jvm.Cond.before (Jvm.Cond.initialized "java/lang/Enum") a0 Z = true := hw _ (List.mem_of_getElem? (i := 17) rfl)
theorem own_w18 {Z : State} {a0 : Array Value} (hw : ∀ d ∈ tables_1, d.before a0 Z = true) : Jvm.Cond.before (Jvm.Cond.code ({ cls := "java/lang/Enum", name := "ordinal", desc := "()I" } : Jvm.MethodName) jdk_37_method_2_code (1 : Nat) (Option.some Jvm.ClassFile.FieldType.int)) a0 Z = true := hw _ (List.mem_of_getElem? (i := 18) rfl)
theorem own_w19 {Z : State} {a0 : Array Value} (hw : ∀ d ∈ tables_1, d.before a0 Z = true) : Jvm.Cond.before (Jvm.Cond.fieldLink "java/lang/Enum" (7 : Nat) "java/lang/Enum" "ordinal" "I") a0 Z = true := hw _ (List.mem_of_getElem? (i := 19) rfl)
theorem own_w21 {Z : State} {a0 : Array Value} (hw : ∀ d ∈ tables_1, d.before a0 Z = true) : Jvm.Cond.before (Jvm.Cond.methodLink own_BF (81 : Nat) ({ cls := "java/lang/Math", name := "abs", desc := "(J)J" } : Jvm.MethodName)) a0 Z = true := hw _ (List.mem_of_getElem? (i := 21) rfl)
theorem own_w22 {Z : State} {a0 : Array Value} (hw : ∀ d ∈ tables_1, d.before a0 Z = true) : Jvm.Cond.before (Jvm.Cond.static ({ cls := "java/lang/Math", name := "abs", desc := "(J)J" } : Jvm.MethodName)) a0 Z = true := hw _ (List.mem_of_getElem? (i := 22) rfl)
theorem own_w23 {Z : State} {a0 : Array Value} (hw : ∀ d ∈ tables_1, d.before a0 Z = true) : Jvm.Cond.before (Jvm.Cond.initialized "java/lang/Math") a0 Z = true := hw _ (List.mem_of_getElem? (i := 23) rfl)
theorem own_w24 {Z : State} {a0 : Array Value} (hw : ∀ d ∈ tables_1, d.before a0 Z = true) : Jvm.Cond.before (Jvm.Cond.code ({ cls := "java/lang/Math", name := "abs", desc := "(J)J" } : Jvm.MethodName) jdk_29_method_61_code (2 : Nat) (Option.some Jvm.ClassFile.FieldType.long)) a0 Z = true := hw _ (List.mem_of_getElem? (i := 24) rfl)
theorem own_w25 {Z : State} {a0 : Array Value} (hw : ∀ d ∈ tables_1, d.before a0 Z = true) : Jvm.Cond.before (Jvm.Cond.fieldLink x.cls (21 : Nat) own_BF "JUMP" own_dBF) a0 Z = true := hw _ (List.mem_of_getElem? (i := 25) rfl)
theorem own_w26 {Z : State} {a0 : Array Value} (hw : ∀ d ∈ tables_1, d.before a0 Z = true) : Jvm.Cond.before (Jvm.Cond.laysStatic own_BF "JUMP" own_dBF) a0 Z = true := hw _ (List.mem_of_getElem? (i := 26) rfl)
theorem own_w27 {Z : State} {a0 : Array Value} (hw : ∀ d ∈ tables_1, d.before a0 Z = true) : Jvm.Cond.before (Jvm.Cond.methodLink own_BF (91 : Nat) ({ cls := own_BF, name := "jump", desc := "(JI)J" } : Jvm.MethodName)) a0 Z = true := hw _ (List.mem_of_getElem? (i := 27) rfl)
theorem own_w28 {Z : State} {a0 : Array Value} (hw : ∀ d ∈ tables_1, d.before a0 Z = true) : Jvm.Cond.before (Jvm.Cond.static ({ cls := own_BF, name := "jump", desc := "(JI)J" } : Jvm.MethodName)) a0 Z = true := hw _ (List.mem_of_getElem? (i := 28) rfl)
theorem own_w29 {Z : State} {a0 : Array Value} (hw : ∀ d ∈ tables_1, d.before a0 Z = true) : Jvm.Cond.before (Jvm.Cond.code ({ cls := own_BF, name := "jump", desc := "(JI)J" } : Jvm.MethodName) prog_19_method_9_code (9 : Nat) (Option.some Jvm.ClassFile.FieldType.long)) a0 Z = true := hw _ (List.mem_of_getElem? (i := 29) rfl)
theorem own_w30 {Z : State} {a0 : Array Value} (hw : ∀ d ∈ tables_1, d.before a0 Z = true) : Jvm.Cond.before (Jvm.Cond.constantLong own_BF (103 : Nat) (-1 : Int64)) a0 Z = true := hw _ (List.mem_of_getElem? (i := 30) rfl)
theorem own_w31 {Z : State} {a0 : Array Value} (hw : ∀ d ∈ tables_1, d.before a0 Z = true) : Jvm.Cond.before (Jvm.Cond.constantLong own_BF (105 : Nat) (2862933555777941757 : Int64)) a0 Z = true := hw _ (List.mem_of_getElem? (i := 31) rfl)
theorem own_w32 {Z : State} {a0 : Array Value} (hw : ∀ d ∈ tables_1, d.before a0 Z = true) : Jvm.Cond.before (Jvm.Cond.constantDouble own_BF (107 : Nat) (4746794007248502784 : UInt64)) a0 Z = true := hw _ (List.mem_of_getElem? (i := 32) rfl)
theorem own_w33 {Z : State} {a0 : Array Value} (hw : ∀ d ∈ tables_1, d.before a0 Z = true) : Jvm.Cond.before (Jvm.Cond.fieldLink x.cls (18 : Nat) own_BF "LINEAR" own_dBF) a0 Z = true := hw _ (List.mem_of_getElem? (i := 33) rfl)
theorem own_w34 {Z : State} {a0 : Array Value} (hw : ∀ d ∈ tables_1, d.before a0 Z = true) : Jvm.Cond.before (Jvm.Cond.laysStatic own_BF "LINEAR" own_dBF) a0 Z = true := hw _ (List.mem_of_getElem? (i := 34) rfl)
theorem own_w35 {Z : State} {a0 : Array Value} (hw : ∀ d ∈ tables_1, d.before a0 Z = true) : Jvm.Cond.before (Jvm.Cond.methodLink own_BF (87 : Nat) ({ cls := own_BF, name := "linear", desc := "(JI)J" } : Jvm.MethodName)) a0 Z = true := hw _ (List.mem_of_getElem? (i := 35) rfl)
theorem own_w36 {Z : State} {a0 : Array Value} (hw : ∀ d ∈ tables_1, d.before a0 Z = true) : Jvm.Cond.before (Jvm.Cond.static ({ cls := own_BF, name := "linear", desc := "(JI)J" } : Jvm.MethodName)) a0 Z = true := hw _ (List.mem_of_getElem? (i := 36) rfl)
theorem own_w37 {Z : State} {a0 : Array Value} (hw : ∀ d ∈ tables_1, d.before a0 Z = true) : Jvm.Cond.before (Jvm.Cond.code ({ cls := own_BF, name := "linear", desc := "(JI)J" } : Jvm.MethodName) prog_19_method_8_code (8 : Nat) (Option.some Jvm.ClassFile.FieldType.long)) a0 Z = true := hw _ (List.mem_of_getElem? (i := 37) rfl)
theorem own_w38 {Z : State} {a0 : Array Value} (hw : ∀ d ∈ tables_1, d.before a0 Z = true) : Jvm.Cond.before (Jvm.Cond.methodLink own_BF (97 : Nat) ({ cls := "java/lang/Long", name := "numberOfLeadingZeros", desc := "(J)I" } : Jvm.MethodName)) a0 Z = true := hw _ (List.mem_of_getElem? (i := 38) rfl)
theorem own_w39 {Z : State} {a0 : Array Value} (hw : ∀ d ∈ tables_1, d.before a0 Z = true) : Jvm.Cond.before (Jvm.Cond.static ({ cls := "java/lang/Long", name := "numberOfLeadingZeros", desc := "(J)I" } : Jvm.MethodName)) a0 Z = true := hw _ (List.mem_of_getElem? (i := 39) rfl)
theorem own_w40 {Z : State} {a0 : Array Value} (hw : ∀ d ∈ tables_1, d.before a0 Z = true) : Jvm.Cond.before (Jvm.Cond.initialized "java/lang/Long") a0 Z = true := hw _ (List.mem_of_getElem? (i := 40) rfl)
theorem own_w41 {Z : State} {a0 : Array Value} (hw : ∀ d ∈ tables_1, d.before a0 Z = true) : Jvm.Cond.before (Jvm.Cond.code ({ cls := "java/lang/Long", name := "numberOfLeadingZeros", desc := "(J)I" } : Jvm.MethodName) jdk_35_method_48_code (3 : Nat) (Option.some Jvm.ClassFile.FieldType.int)) a0 Z = true := hw _ (List.mem_of_getElem? (i := 41) rfl)
theorem own_w42 {Z : State} {a0 : Array Value} (hw : ∀ d ∈ tables_1, d.before a0 Z = true) : Jvm.Cond.before (Jvm.Cond.methodLink "java/lang/Long" (308 : Nat) ({ cls := "java/lang/Integer", name := "numberOfLeadingZeros", desc := "(I)I" } : Jvm.MethodName)) a0 Z = true := hw _ (List.mem_of_getElem? (i := 42) rfl)
theorem own_w43 {Z : State} {a0 : Array Value} (hw : ∀ d ∈ tables_1, d.before a0 Z = true) : Jvm.Cond.before (Jvm.Cond.static ({ cls := "java/lang/Integer", name := "numberOfLeadingZeros", desc := "(I)I" } : Jvm.MethodName)) a0 Z = true := hw _ (List.mem_of_getElem? (i := 43) rfl)
theorem own_w44 {Z : State} {a0 : Array Value} (hw : ∀ d ∈ tables_1, d.before a0 Z = true) : Jvm.Cond.before (Jvm.Cond.initialized "java/lang/Integer") a0 Z = true := hw _ (List.mem_of_getElem? (i := 44) rfl)
theorem own_w45 {Z : State} {a0 : Array Value} (hw : ∀ d ∈ tables_1, d.before a0 Z = true) : Jvm.Cond.before (Jvm.Cond.code ({ cls := "java/lang/Integer", name := "numberOfLeadingZeros", desc := "(I)I" } : Jvm.MethodName) jdk_33_method_47_code (2 : Nat) (Option.some Jvm.ClassFile.FieldType.int)) a0 Z = true := hw _ (List.mem_of_getElem? (i := 45) rfl)
theorem own_w46 {Z : State} {a0 : Array Value} (hw : ∀ d ∈ tables_1, d.before a0 Z = true) : Jvm.Cond.before (Jvm.Cond.constant "java/lang/Integer" (264 : Nat) (65536 : Int32)) a0 Z = true := hw _ (List.mem_of_getElem? (i := 46) rfl)
theorem pd_0 : parseMethodDescriptor "(I)I" = some ⟨[.int], some .int⟩ := by decide +kernel
theorem pd_1 : parseMethodDescriptor "(J)I" = some ⟨[.long], some .int⟩ := by decide +kernel
theorem pd_2 : parseMethodDescriptor "(I)V" = some ⟨[.int], none⟩ := by decide +kernel
theorem pd_3 : parseMethodDescriptor "()I" = some ⟨[], some .int⟩ := by decide +kernel
theorem pd_4 : parseMethodDescriptor "(J)J" = some ⟨[.long], some .long⟩ := by decide +kernel
theorem pd_5 : parseMethodDescriptor "(JI)J" = some ⟨[.long, .int], some .long⟩ := by decide +kernel
theorem pd_6 : parseMethodDescriptor "(JI)I" = some ⟨[.long, .int], some .int⟩ := by decide +kernel
theorem djp_0 : decode prog_19_method_9_code 0 = .ok (.lload_n 0, 1) := by decide +kernel
theorem djp_1 : decode prog_19_method_9_code 1 = .ok (.lstore_n 3, 1) := by decide +kernel
theorem djp_2 : decode prog_19_method_9_code 2 = .ok (.ldc2_w 103, 3) := by decide +kernel
theorem djp_5 : decode prog_19_method_9_code 5 = .ok (.lstore 5, 2) := by decide +kernel
theorem djp_7 : decode prog_19_method_9_code 7 = .ok (.lconst 0, 1) := by decide +kernel
theorem djp_8 : decode prog_19_method_9_code 8 = .ok (.lstore 7, 2) := by decide +kernel
theorem djp_10 : decode prog_19_method_9_code 10 = .ok (.lload 7, 2) := by decide +kernel
theorem djp_12 : decode prog_19_method_9_code 12 = .ok (.iload_n 2, 1) := by decide +kernel
theorem djp_13 : decode prog_19_method_9_code 13 = .ok (.i2l, 1) := by decide +kernel
theorem djp_14 : decode prog_19_method_9_code 14 = .ok (.lcmp, 1) := by decide +kernel
theorem djp_15 : decode prog_19_method_9_code 15 = .ok (.ifCond .ge 38, 3) := by decide +kernel
theorem djp_18 : decode prog_19_method_9_code 18 = .ok (.lload 7, 2) := by decide +kernel
theorem djp_20 : decode prog_19_method_9_code 20 = .ok (.lstore 5, 2) := by decide +kernel
theorem djp_22 : decode prog_19_method_9_code 22 = .ok (.lload_n 3, 1) := by decide +kernel
theorem djp_23 : decode prog_19_method_9_code 23 = .ok (.ldc2_w 105, 3) := by decide +kernel
theorem djp_26 : decode prog_19_method_9_code 26 = .ok (.lmul, 1) := by decide +kernel
theorem djp_27 : decode prog_19_method_9_code 27 = .ok (.lconst 1, 1) := by decide +kernel
theorem djp_28 : decode prog_19_method_9_code 28 = .ok (.ladd, 1) := by decide +kernel
theorem djp_29 : decode prog_19_method_9_code 29 = .ok (.lstore_n 3, 1) := by decide +kernel
theorem djp_30 : decode prog_19_method_9_code 30 = .ok (.lload 5, 2) := by decide +kernel
theorem djp_32 : decode prog_19_method_9_code 32 = .ok (.lconst 1, 1) := by decide +kernel
theorem djp_33 : decode prog_19_method_9_code 33 = .ok (.ladd, 1) := by decide +kernel
theorem djp_34 : decode prog_19_method_9_code 34 = .ok (.l2d, 1) := by decide +kernel
theorem djp_35 : decode prog_19_method_9_code 35 = .ok (.ldc2_w 107, 3) := by decide +kernel
theorem djp_38 : decode prog_19_method_9_code 38 = .ok (.lload_n 3, 1) := by decide +kernel
theorem djp_39 : decode prog_19_method_9_code 39 = .ok (.bipush 33, 2) := by decide +kernel
theorem djp_41 : decode prog_19_method_9_code 41 = .ok (.lushr, 1) := by decide +kernel
theorem djp_42 : decode prog_19_method_9_code 42 = .ok (.lconst 1, 1) := by decide +kernel
theorem djp_43 : decode prog_19_method_9_code 43 = .ok (.ladd, 1) := by decide +kernel
theorem djp_44 : decode prog_19_method_9_code 44 = .ok (.l2d, 1) := by decide +kernel
theorem djp_45 : decode prog_19_method_9_code 45 = .ok (.ddiv, 1) := by decide +kernel
theorem djp_46 : decode prog_19_method_9_code 46 = .ok (.dmul, 1) := by decide +kernel
theorem djp_47 : decode prog_19_method_9_code 47 = .ok (.d2l, 1) := by decide +kernel
theorem djp_48 : decode prog_19_method_9_code 48 = .ok (.lstore 7, 2) := by decide +kernel
theorem djp_50 : decode prog_19_method_9_code 50 = .ok (.goto (-40), 3) := by decide +kernel
theorem djp_53 : decode prog_19_method_9_code 53 = .ok (.lload 5, 2) := by decide +kernel
theorem djp_55 : decode prog_19_method_9_code 55 = .ok (.lreturn, 1) := by decide +kernel
theorem ef_jp (mI : MethodId) (key : Int64) (nn : Int32) : entryFrame mI #[(.long key), (.int nn)] 9 = mkF mI 0 #[.val (.long key), .second, .val (.int nn), .unset, .unset, .unset, .unset, .unset, .unset] [] := by first | (simp [entryFrame, mkF, argsToLocals, Value.category]; done) | rfl
theorem pn_jp : plainName own_BF = true := by first | decide +kernel | (simp [plainName, overriddenIn]; done)
set_option maxRecDepth 65536 in
set_option maxHeartbeats 40000000 in
theorem rmjp (lL : Launch) (Z : State) (a0 : Array Value) (hw : ∀ d ∈ tables_1, d.before a0 Z = true) (ws : List Jvm.Cond) (key : Int64) (nn : Int32) (f0 : Nat) (h0 : Heap) (n0 : Nat) (Z0 : n0 ≤ h0.size) (hn1 : 1 ≤ nn.toInt) (hn2 : nn.toInt ≤ 2147483647) (hf : nn.toInt ≤ f0) :
    MetFree lL (⟨own_BF, "jump", "(JI)J"⟩ : MethodName) (head1 (Jvm.Cond.code (⟨own_BF, "jump", "(JI)J"⟩ : MethodName) prog_19_method_9_code 9 (some .long) :: ws) ({ frames := 0, cells := 0, slots := 0, locals := 0 } : Room)) (fun a_ U_ => a_ = #[(.long key), (.int nn)] ∧ Z.Warmed39 U_.vm ∧ U_.heap = h0) (fun _ _ _ _ _ => True) (fun _ U_ o_ W_ => ∃ v_ L_, o_ = .returned v_ ∧ own_QJ (own_run f0 key (-1 : Int64) (0 : Int64) nn.toInt64) h0 n0 v_ W_.heap L_ ∧ FrameEnd U_ o_ W_ L_ ({ frames := 0, cells := 0, slots := 0, locals := 0 } : Room).cells ({ frames := 0, cells := 0, slots := 0, locals := 0 } : Room).slots) := by
  refine MetFree.of_bodySF (plainFor_of_name pn_jp) hisR ?_
  intro pP eE sS mI args below meth cC s₁ Bd hml0 hP hK
  obtain ⟨rfl, hZ, hh⟩ := hP
  have hx := Bd.exec
  have hby := Bd.bytes
  have hml : cC.maxLocals = 9 := hml0
  have hown : sS.vm.findClass own_BF = some mI.cls := by have z := findClass_of_methodNamed Bd.named; exact z
  have hnm := (name_of_methodNamed Bd.named Bd.method).1
  have X0 : Stand pP lL eE ({ frames := 0, cells := 0, slots := 0, locals := 0 } : Room) sS mI #[(.long key), (.int nn)] below meth cC s₁ [] 0 0 := Stand.of_body Bd
  have e0 : s₁.heap = h0 := by rw [← hh, Bd.state]; rfl
  have N0 := Fr.nil n0
  obtain ⟨G, hG, hst, hend⟩ := own_abs pP eE below sS (own_QJ (own_run f0 key (-1 : Int64) (0 : Int64) nn.toInt64) h0 n0) ({ frames := 0, cells := 0, slots := 0, locals := 0 } : Room).cells ({ frames := 0, cells := 0, slots := 0, locals := 0 } : Room).slots
  refine hG (S := s₁.setTop (entryFrame mI #[(.long key), (.int nn)] 9)) (hst (fun t_ kt_ => castTop (ef_jp mI key nn) kt_) ?_)
  show G (s₁.setTop (mkF mI 0 #[.val (.long key), .second, .val (.int nn), .unset, .unset, .unset, .unset, .unset, .unset] []))
  refine o_lloadN hst X0.here hx (hb hby djp_0) (pc' := 1) rfl rfl ?_
  refine o_lstoreN hst X0.here hx (hb hby djp_1) (pc' := 2) rfl (Lt := #[.val (.long key), .second, .val (.int nn), .val (.long key), .second, .unset, .unset, .unset, .unset]) rfl ?_
  refine hst (X0.ldc2Long hx hown (mvT hZ (own_w30 hw)) (g := (mkF mI 2 #[.val (.long key), .second, .val (.int nn), .val (.long key), .second, .unset, .unset, .unset, .unset] [])) rfl (hb hby djp_2)) ?_
  show G (s₁.setTop (mkF mI 5 #[.val (.long key), .second, .val (.int nn), .val (.long key), .second, .unset, .unset, .unset, .unset] [(.long (-1 : Int64))]))
  refine o_lstore hst X0.here hx (hb hby djp_5) (pc' := 7) rfl (Lt := #[.val (.long key), .second, .val (.int nn), .val (.long key), .second, .val (.long (-1 : Int64)), .second, .unset, .unset]) rfl ?_
  refine o_lconst hst X0.here hx (hb hby djp_7) (pc' := 8) rfl (z := (0 : Int64)) rfl ?_
  refine o_lstore hst X0.here hx (hb hby djp_8) (pc' := 10) rfl (Lt := #[.val (.long key), .second, .val (.int nn), .val (.long key), .second, .val (.long (-1 : Int64)), .second, .val (.long (0 : Int64)), .second]) rfl ?_
  have eL := own_nL nn
  have J10 : ∀ (fu : Nat) (sx : Int64) (sb : Int64) (sj : Int64) (Tj_1 : State) (lj_1 : List Loc) (Xj_1 : Stand pP lL eE ({ frames := 0, cells := 0, slots := 0, locals := 0 } : Room) sS mI #[(.long key), (.int nn)] below meth cC Tj_1 lj_1 0 0) (ej_1 : Tj_1.heap = h0) (Nj_1 : Fr n0 lj_1) (hj0 : 0 ≤ sj.toInt) (hm : (nn.toInt64).toInt - sj.toInt ≤ fu) (he : own_run fu sx sb sj nn.toInt64 = (own_run f0 key (-1 : Int64) (0 : Int64) nn.toInt64)), G (Tj_1.setTop (mkF mI 10 #[.val (.long key), .second, .val (.int nn), .val (.long sx), .second, .val (.long sb), .second, .val (.long sj), .second] [])) := by
    intro fu
    induction fu with
    | zero =>
      intro sx sb sj Tj_1 lj_1 Xj_1 ej_1 Nj_1 hj0 hm he
      show G (Tj_1.setTop (mkF mI 10 #[.val (.long key), .second, .val (.int nn), .val (.long sx), .second, .val (.long sb), .second, .val (.long sj), .second] []))
      refine o_lload hst Xj_1.here hx (hb hby djp_10) (pc' := 12) rfl rfl ?_
      refine o_iloadN hst Xj_1.here hx (hb hby djp_12) (pc' := 13) rfl rfl ?_
      refine o_i2l hst Xj_1.here hx (hb hby djp_13) (pc' := 14) rfl ?_
      refine o_lcmp hst Xj_1.here hx (hb hby djp_14) (pc' := 15) rfl ?_
      have hj : ¬ (sj < (nn.toInt64)) := by rw [Int64.lt_iff_toInt_lt]; omega
      refine hst (fun _ kt => XS.ifYes Xj_1.here hx rfl (pc0 := 15) (pc' := 53) rfl (hb hby djp_15) rfl ((if0 _ _).trans (flt (mt (lw_lt _ _).mp hj)).2.1) (by decide) (by decide) kt) ?_
      show G (Tj_1.setTop (mkF mI 53 #[.val (.long key), .second, .val (.int nn), .val (.long sx), .second, .val (.long sb), .second, .val (.long sj), .second] []))
      refine o_lload hst Xj_1.here hx (hb hby djp_53) (pc' := 55) rfl rfl ?_
      exact hend (own_goRet Xj_1 hx Bd.returns rfl (Or.inr (Or.inl ⟨rfl, rfl, _, rfl⟩)) (hb hby djp_55) Bd.notSynchronized (by rw [ej_1]; exact ⟨by rw [← he]; rfl, Nj_1, rfl⟩) (by decide) (by decide))
    | succ fu ih =>
      intro sx sb sj Tj_1 lj_1 Xj_1 ej_1 Nj_1 hj0 hm he
      show G (Tj_1.setTop (mkF mI 10 #[.val (.long key), .second, .val (.int nn), .val (.long sx), .second, .val (.long sb), .second, .val (.long sj), .second] []))
      refine o_lload hst Xj_1.here hx (hb hby djp_10) (pc' := 12) rfl rfl ?_
      refine o_iloadN hst Xj_1.here hx (hb hby djp_12) (pc' := 13) rfl rfl ?_
      refine o_i2l hst Xj_1.here hx (hb hby djp_13) (pc' := 14) rfl ?_
      refine o_lcmp hst Xj_1.here hx (hb hby djp_14) (pc' := 15) rfl ?_
      by_cases hj : sj < (nn.toInt64)
      ·
        refine hst (fun _ kt => XS.ifNo Xj_1.here hx rfl (hb hby djp_15) rfl ((if0 _ _).trans (tlt ((lw_lt _ _).mpr hj)).2.1) kt) ?_
        show G (Tj_1.setTop (mkF mI 18 #[.val (.long key), .second, .val (.int nn), .val (.long sx), .second, .val (.long sb), .second, .val (.long sj), .second] []))
        refine o_lload hst Xj_1.here hx (hb hby djp_18) (pc' := 20) rfl rfl ?_
        refine o_lstore hst Xj_1.here hx (hb hby djp_20) (pc' := 22) rfl (Lt := #[.val (.long key), .second, .val (.int nn), .val (.long sx), .second, .val (.long sj), .second, .val (.long sj), .second]) rfl ?_
        refine o_lloadN hst Xj_1.here hx (hb hby djp_22) (pc' := 23) rfl rfl ?_
        refine hst (Xj_1.ldc2Long hx hown (mvT hZ (own_w31 hw)) (g := (mkF mI 23 #[.val (.long key), .second, .val (.int nn), .val (.long sx), .second, .val (.long sj), .second, .val (.long sj), .second] [(.long sx)])) rfl (hb hby djp_23)) ?_
        show G (Tj_1.setTop (mkF mI 26 #[.val (.long key), .second, .val (.int nn), .val (.long sx), .second, .val (.long sj), .second, .val (.long sj), .second] [(.long (2862933555777941757 : Int64)), (.long sx)]))
        refine o_lmul hst Xj_1.here hx (hb hby djp_26) (pc' := 27) rfl ?_
        refine o_lconst hst Xj_1.here hx (hb hby djp_27) (pc' := 28) rfl (z := (1 : Int64)) rfl ?_
        refine o_ladd hst Xj_1.here hx (hb hby djp_28) (pc' := 29) rfl ?_
        show G (Tj_1.setTop (mkF mI 29 #[.val (.long key), .second, .val (.int nn), .val (.long sx), .second, .val (.long sj), .second, .val (.long sj), .second] [(.long (own_st sx))]))
        refine o_lstoreN hst Xj_1.here hx (hb hby djp_29) (pc' := 30) rfl (Lt := #[.val (.long key), .second, .val (.int nn), .val (.long (own_st sx)), .second, .val (.long sj), .second, .val (.long sj), .second]) rfl ?_
        refine o_lload hst Xj_1.here hx (hb hby djp_30) (pc' := 32) rfl rfl ?_
        refine o_lconst hst Xj_1.here hx (hb hby djp_32) (pc' := 33) rfl (z := (1 : Int64)) rfl ?_
        refine o_ladd hst Xj_1.here hx (hb hby djp_33) (pc' := 34) rfl ?_
        refine hst (fun _ kt => XS.l2dS Xj_1.here hx rfl (hb hby djp_34) rfl rfl kt) ?_
        show G (Tj_1.setTop (mkF mI 35 #[.val (.long key), .second, .val (.int nn), .val (.long (own_st sx)), .second, .val (.long sj), .second, .val (.long sj), .second] [(.double (FP.l2d (sj + (1 : Int64))))]))
        refine hst (Xj_1.ldc2DoubleC hx hown (mvT hZ (own_w32 hw)) (g := (mkF mI 35 #[.val (.long key), .second, .val (.int nn), .val (.long (own_st sx)), .second, .val (.long sj), .second, .val (.long sj), .second] [(.double (FP.l2d (sj + (1 : Int64))))])) rfl (hb hby djp_35)) ?_
        show G (Tj_1.setTop (mkF mI 38 #[.val (.long key), .second, .val (.int nn), .val (.long (own_st sx)), .second, .val (.long sj), .second, .val (.long sj), .second] [(.double (4746794007248502784 : UInt64)), (.double (FP.l2d (sj + (1 : Int64))))]))
        refine o_lloadN hst Xj_1.here hx (hb hby djp_38) (pc' := 39) rfl rfl ?_
        refine o_bipush hst Xj_1.here hx (hb hby djp_39) (pc' := 41) rfl (z := (33 : Int32)) rfl ?_
        refine o_lushr hst Xj_1.here hx (hb hby djp_41) (pc' := 42) rfl ?_
        refine o_lconst hst Xj_1.here hx (hb hby djp_42) (pc' := 43) rfl (z := (1 : Int64)) rfl ?_
        refine o_ladd hst Xj_1.here hx (hb hby djp_43) (pc' := 44) rfl ?_
        show G (Tj_1.setTop (mkF mI 44 #[.val (.long key), .second, .val (.int nn), .val (.long (own_st sx)), .second, .val (.long sj), .second, .val (.long sj), .second] [(.long (own_s (own_st sx))), (.double (4746794007248502784 : UInt64)), (.double (FP.l2d (sj + (1 : Int64))))]))
        have hr := own_s_rng (own_st sx)
        have hj' := hj
        rw [Int64.lt_iff_toInt_lt] at hj'
        obtain ⟨nn1, nn2, hp⟩ := own_nxs (b := sj) (s := own_s (own_st sx)) hj0 (by omega) hr.1 hr.2
        refine hst (fun _ kt => XS.l2dS Xj_1.here hx rfl (hb hby djp_44) rfl rfl kt) ?_
        show G (Tj_1.setTop (mkF mI 45 #[.val (.long key), .second, .val (.int nn), .val (.long (own_st sx)), .second, .val (.long sj), .second, .val (.long sj), .second] [(.double (FP.l2d (own_s (own_st sx)))), (.double (4746794007248502784 : UInt64)), (.double (FP.l2d (sj + (1 : Int64))))]))
        refine hst (fun _ kt => XS.ddivS Xj_1.here hx rfl (hb hby djp_45) rfl nn1 rfl kt) ?_
        show G (Tj_1.setTop (mkF mI 46 #[.val (.long key), .second, .val (.int nn), .val (.long (own_st sx)), .second, .val (.long sj), .second, .val (.long sj), .second] [(.double (FP.ddiv (4746794007248502784 : UInt64) (FP.l2d (own_s (own_st sx))))), (.double (FP.l2d (sj + (1 : Int64))))]))
        refine hst (fun _ kt => XS.dmulS Xj_1.here hx rfl (hb hby djp_46) rfl nn2 rfl kt) ?_
        show G (Tj_1.setTop (mkF mI 47 #[.val (.long key), .second, .val (.int nn), .val (.long (own_st sx)), .second, .val (.long sj), .second, .val (.long sj), .second] [(.double (FP.dmul (FP.l2d (sj + (1 : Int64))) (FP.ddiv (4746794007248502784 : UInt64) (FP.l2d (own_s (own_st sx))))))]))
        refine hst (fun _ kt => XS.d2lS Xj_1.here hx rfl (hb hby djp_47) rfl rfl kt) ?_
        show G (Tj_1.setTop (mkF mI 48 #[.val (.long key), .second, .val (.int nn), .val (.long (own_st sx)), .second, .val (.long sj), .second, .val (.long sj), .second] [(.long (FP.d2l (FP.dmul (FP.l2d (sj + (1 : Int64))) (FP.ddiv (4746794007248502784 : UInt64) (FP.l2d (own_s (own_st sx)))))))]))
        show G (Tj_1.setTop (mkF mI 48 #[.val (.long key), .second, .val (.int nn), .val (.long (own_st sx)), .second, .val (.long sj), .second, .val (.long sj), .second] [(.long (own_nx sj (own_s (own_st sx))))]))
        refine o_lstore hst Xj_1.here hx (hb hby djp_48) (pc' := 50) rfl (Lt := #[.val (.long key), .second, .val (.int nn), .val (.long (own_st sx)), .second, .val (.long sj), .second, .val (.long (own_nx sj (own_s (own_st sx)))), .second]) rfl ?_
        refine o_goto hst Xj_1.here hx (hb hby djp_50) (by decide) (pc' := 10) (by decide) ?_
        exact ih _ _ _ Tj_1 _ Xj_1 ej_1 Nj_1 (by omega) (by omega) ((own_run_in hj).symm.trans he)
      ·
        refine hst (fun _ kt => XS.ifYes Xj_1.here hx rfl (pc0 := 15) (pc' := 53) rfl (hb hby djp_15) rfl ((if0 _ _).trans (flt (mt (lw_lt _ _).mp hj)).2.1) (by decide) (by decide) kt) ?_
        show G (Tj_1.setTop (mkF mI 53 #[.val (.long key), .second, .val (.int nn), .val (.long sx), .second, .val (.long sb), .second, .val (.long sj), .second] []))
        refine o_lload hst Xj_1.here hx (hb hby djp_53) (pc' := 55) rfl rfl ?_
        exact hend (own_goRet Xj_1 hx Bd.returns rfl (Or.inr (Or.inl ⟨rfl, rfl, _, rfl⟩)) (hb hby djp_55) Bd.notSynchronized (by rw [ej_1]; exact ⟨by rw [← he, own_run_out hj], Nj_1, rfl⟩) (by decide) (by decide))
  exact J10 f0 _ _ _ s₁ _ X0 e0 N0 (by decide) (by rw [eL]; exact Int.le_trans (Int.sub_le_self _ (by decide)) hf) rfl
theorem diz_0 : decode jdk_33_method_47_code 0 = .ok (.iload_n 0, 1) := by decide +kernel
theorem diz_1 : decode jdk_33_method_47_code 1 = .ok (.ifCond .gt 14, 3) := by decide +kernel
theorem diz_4 : decode jdk_33_method_47_code 4 = .ok (.iload_n 0, 1) := by decide +kernel
theorem diz_5 : decode jdk_33_method_47_code 5 = .ok (.ifCond .ne 8, 3) := by decide +kernel
theorem diz_8 : decode jdk_33_method_47_code 8 = .ok (.bipush 32, 2) := by decide +kernel
theorem diz_10 : decode jdk_33_method_47_code 10 = .ok (.goto 4, 3) := by decide +kernel
theorem diz_14 : decode jdk_33_method_47_code 14 = .ok (.ireturn, 1) := by decide +kernel
theorem diz_15 : decode jdk_33_method_47_code 15 = .ok (.bipush 31, 2) := by decide +kernel
theorem diz_17 : decode jdk_33_method_47_code 17 = .ok (.istore_n 1, 1) := by decide +kernel
theorem diz_18 : decode jdk_33_method_47_code 18 = .ok (.iload_n 0, 1) := by decide +kernel
theorem diz_19 : decode jdk_33_method_47_code 19 = .ok (.ldc_w 264, 3) := by decide +kernel
theorem diz_22 : decode jdk_33_method_47_code 22 = .ok (.if_icmp .lt 11, 3) := by decide +kernel
theorem diz_25 : decode jdk_33_method_47_code 25 = .ok (.iinc 1 (-16), 3) := by decide +kernel
theorem diz_28 : decode jdk_33_method_47_code 28 = .ok (.iload_n 0, 1) := by decide +kernel
theorem diz_29 : decode jdk_33_method_47_code 29 = .ok (.bipush 16, 2) := by decide +kernel
theorem diz_31 : decode jdk_33_method_47_code 31 = .ok (.iushr, 1) := by decide +kernel
theorem diz_32 : decode jdk_33_method_47_code 32 = .ok (.istore_n 0, 1) := by decide +kernel
theorem diz_33 : decode jdk_33_method_47_code 33 = .ok (.iload_n 0, 1) := by decide +kernel
theorem diz_34 : decode jdk_33_method_47_code 34 = .ok (.sipush 256, 3) := by decide +kernel
theorem diz_37 : decode jdk_33_method_47_code 37 = .ok (.if_icmp .lt 11, 3) := by decide +kernel
theorem diz_40 : decode jdk_33_method_47_code 40 = .ok (.iinc 1 (-8), 3) := by decide +kernel
theorem diz_43 : decode jdk_33_method_47_code 43 = .ok (.iload_n 0, 1) := by decide +kernel
theorem diz_44 : decode jdk_33_method_47_code 44 = .ok (.bipush 8, 2) := by decide +kernel
theorem diz_46 : decode jdk_33_method_47_code 46 = .ok (.iushr, 1) := by decide +kernel
theorem diz_47 : decode jdk_33_method_47_code 47 = .ok (.istore_n 0, 1) := by decide +kernel
theorem diz_48 : decode jdk_33_method_47_code 48 = .ok (.iload_n 0, 1) := by decide +kernel
theorem diz_49 : decode jdk_33_method_47_code 49 = .ok (.bipush 16, 2) := by decide +kernel
theorem diz_51 : decode jdk_33_method_47_code 51 = .ok (.if_icmp .lt 10, 3) := by decide +kernel
theorem diz_54 : decode jdk_33_method_47_code 54 = .ok (.iinc 1 (-4), 3) := by decide +kernel
theorem diz_57 : decode jdk_33_method_47_code 57 = .ok (.iload_n 0, 1) := by decide +kernel
theorem diz_58 : decode jdk_33_method_47_code 58 = .ok (.iconst 4, 1) := by decide +kernel
theorem diz_59 : decode jdk_33_method_47_code 59 = .ok (.iushr, 1) := by decide +kernel
theorem diz_60 : decode jdk_33_method_47_code 60 = .ok (.istore_n 0, 1) := by decide +kernel
theorem diz_61 : decode jdk_33_method_47_code 61 = .ok (.iload_n 0, 1) := by decide +kernel
theorem diz_62 : decode jdk_33_method_47_code 62 = .ok (.iconst 4, 1) := by decide +kernel
theorem diz_63 : decode jdk_33_method_47_code 63 = .ok (.if_icmp .lt 10, 3) := by decide +kernel
theorem diz_66 : decode jdk_33_method_47_code 66 = .ok (.iinc 1 (-2), 3) := by decide +kernel
theorem diz_69 : decode jdk_33_method_47_code 69 = .ok (.iload_n 0, 1) := by decide +kernel
theorem diz_70 : decode jdk_33_method_47_code 70 = .ok (.iconst 2, 1) := by decide +kernel
theorem diz_71 : decode jdk_33_method_47_code 71 = .ok (.iushr, 1) := by decide +kernel
theorem diz_72 : decode jdk_33_method_47_code 72 = .ok (.istore_n 0, 1) := by decide +kernel
theorem diz_73 : decode jdk_33_method_47_code 73 = .ok (.iload_n 1, 1) := by decide +kernel
theorem diz_74 : decode jdk_33_method_47_code 74 = .ok (.iload_n 0, 1) := by decide +kernel
theorem diz_75 : decode jdk_33_method_47_code 75 = .ok (.iconst 1, 1) := by decide +kernel
theorem diz_76 : decode jdk_33_method_47_code 76 = .ok (.iushr, 1) := by decide +kernel
theorem diz_77 : decode jdk_33_method_47_code 77 = .ok (.isub, 1) := by decide +kernel
theorem diz_78 : decode jdk_33_method_47_code 78 = .ok (.ireturn, 1) := by decide +kernel
theorem ef_iz (mI : MethodId) (ii : Int32) : entryFrame mI #[(.int ii)] 2 = mkF mI 0 #[.val (.int ii), .unset] [] := by first | (simp [entryFrame, mkF, argsToLocals, Value.category]; done) | rfl
theorem pn_iz : plainName "java/lang/Integer" = true := by first | decide +kernel | (simp [plainName, overriddenIn]; done)
set_option maxRecDepth 65536 in
set_option maxHeartbeats 40000000 in
theorem rmiz (lL : Launch) (Z : State) (a0 : Array Value) (hw : ∀ d ∈ tables_1, d.before a0 Z = true) (ws : List Jvm.Cond) (ii : Int32) (h0 : Heap) (n0 : Nat) (Z0 : n0 ≤ h0.size) (hi0 : 0 ≤ ii.toInt) :
    MetFree lL (⟨"java/lang/Integer", "numberOfLeadingZeros", "(I)I"⟩ : MethodName) (head1 (Jvm.Cond.code (⟨"java/lang/Integer", "numberOfLeadingZeros", "(I)I"⟩ : MethodName) jdk_33_method_47_code 2 (some .int) :: ws) ({ frames := 0, cells := 0, slots := 0, locals := 0 } : Room)) (fun a_ U_ => a_ = #[(.int ii)] ∧ Z.Warmed39 U_.vm ∧ U_.heap = h0) (fun _ _ _ _ _ => True) (fun _ U_ o_ W_ => ∃ v_ L_, o_ = .returned v_ ∧ own_Qnz ii.toInt.toNat 32 h0 n0 v_ W_.heap L_ ∧ FrameEnd U_ o_ W_ L_ ({ frames := 0, cells := 0, slots := 0, locals := 0 } : Room).cells ({ frames := 0, cells := 0, slots := 0, locals := 0 } : Room).slots) := by
  refine MetFree.of_bodySF (plainFor_of_name pn_iz) hisR ?_
  intro pP eE sS mI args below meth cC s₁ Bd hml0 hP hK
  obtain ⟨rfl, hZ, hh⟩ := hP
  have hx := Bd.exec
  have hby := Bd.bytes
  have hml : cC.maxLocals = 2 := hml0
  have hown : sS.vm.findClass "java/lang/Integer" = some mI.cls := by have z := findClass_of_methodNamed Bd.named; exact z
  have hnm := (name_of_methodNamed Bd.named Bd.method).1
  have X0 : Stand pP lL eE ({ frames := 0, cells := 0, slots := 0, locals := 0 } : Room) sS mI #[(.int ii)] below meth cC s₁ [] 0 0 := Stand.of_body Bd
  have e0 : s₁.heap = h0 := by rw [← hh, Bd.state]; rfl
  have N0 := Fr.nil n0
  obtain ⟨G, hG, hst, hend⟩ := own_abs pP eE below sS (own_Qnz ii.toInt.toNat 32 h0 n0) ({ frames := 0, cells := 0, slots := 0, locals := 0 } : Room).cells ({ frames := 0, cells := 0, slots := 0, locals := 0 } : Room).slots
  refine hG (S := s₁.setTop (entryFrame mI #[(.int ii)] 2)) (hst (fun t_ kt_ => castTop (ef_iz mI ii) kt_) ?_)
  have hi1 := Int32.toInt_lt ii
  show G (s₁.setTop (mkF mI 0 #[.val (.int ii), .unset] []))
  refine o_iloadN hst X0.here hx (hb hby diz_0) (pc' := 1) rfl rfl ?_
  by_cases hp : (0 : Int32) < ii
  ·
    refine hst (fun _ kt => XS.ifYes X0.here hx rfl (pc0 := 1) (pc' := 15) rfl (hb hby diz_1) rfl ((if0 _ _).trans (tlt hp).2.2.1) (by decide) (by decide) kt) ?_
    show G (s₁.setTop (mkF mI 15 #[.val (.int ii), .unset] []))
    have z0 := own_Z0 hp
    refine o_bipush hst X0.here hx (hb hby diz_15) (pc' := 17) rfl (z := (31 : Int32)) rfl ?_
    refine o_istoreN hst X0.here hx (hb hby diz_17) (pc' := 18) rfl (Lt := #[.val (.int ii), .val (.int (31 : Int32))]) rfl ?_
    refine o_iloadN hst X0.here hx (hb hby diz_18) (pc' := 19) rfl rfl ?_
    refine hst (X0.ldcwInt hx hown (mvT hZ (own_w46 hw)) (g := (mkF mI 19 #[.val (.int ii), .val (.int (31 : Int32))] [(.int ii)])) rfl (hb hby diz_19)) ?_
    show G (s₁.setTop (mkF mI 22 #[.val (.int ii), .val (.int (31 : Int32))] [(.int (65536 : Int32)), (.int ii)]))
    have J33 : ∀ (n16 : Int32) (x16 : Int32) (z16 : own_Zi ii.toInt.toNat n16 x16 16), G (s₁.setTop (mkF mI 33 #[.val (.int x16), .val (.int n16)] [])) := by
      intro n16 x16 z16
      show G (s₁.setTop (mkF mI 33 #[.val (.int x16), .val (.int n16)] []))
      refine o_iloadN hst X0.here hx (hb hby diz_33) (pc' := 34) rfl rfl ?_
      refine o_sipush hst X0.here hx (hb hby diz_34) (pc' := 37) rfl (z := (256 : Int32)) rfl ?_
      have J48 : ∀ (n8 : Int32) (x8 : Int32) (z8 : own_Zi ii.toInt.toNat n8 x8 8), G (s₁.setTop (mkF mI 48 #[.val (.int x8), .val (.int n8)] [])) := by
        intro n8 x8 z8
        show G (s₁.setTop (mkF mI 48 #[.val (.int x8), .val (.int n8)] []))
        refine o_iloadN hst X0.here hx (hb hby diz_48) (pc' := 49) rfl rfl ?_
        refine o_bipush hst X0.here hx (hb hby diz_49) (pc' := 51) rfl (z := (16 : Int32)) rfl ?_
        have J61 : ∀ (n4 : Int32) (x4 : Int32) (z4 : own_Zi ii.toInt.toNat n4 x4 4), G (s₁.setTop (mkF mI 61 #[.val (.int x4), .val (.int n4)] [])) := by
          intro n4 x4 z4
          show G (s₁.setTop (mkF mI 61 #[.val (.int x4), .val (.int n4)] []))
          refine o_iloadN hst X0.here hx (hb hby diz_61) (pc' := 62) rfl rfl ?_
          refine o_iconst hst X0.here hx (hb hby diz_62) (pc' := 63) rfl (z := (4 : Int32)) rfl ?_
          have J73 : ∀ (n2 : Int32) (x2 : Int32) (z2 : own_Zi ii.toInt.toNat n2 x2 2), G (s₁.setTop (mkF mI 73 #[.val (.int x2), .val (.int n2)] [])) := by
            intro n2 x2 z2
            show G (s₁.setTop (mkF mI 73 #[.val (.int x2), .val (.int n2)] []))
            refine o_iloadN hst X0.here hx (hb hby diz_73) (pc' := 74) rfl rfl ?_
            refine o_iloadN hst X0.here hx (hb hby diz_74) (pc' := 75) rfl rfl ?_
            refine o_iconst hst X0.here hx (hb hby diz_75) (pc' := 76) rfl (z := (1 : Int32)) rfl ?_
            refine o_iushr hst X0.here hx (hb hby diz_76) (pc' := 77) rfl ?_
            refine o_isub hst X0.here hx (hb hby diz_77) (pc' := 78) rfl ?_
            obtain ⟨k, hk1, hk2⟩ := own_Zf z2 (by omega)
            exact hend (own_goRet X0 hx Bd.returns rfl (Or.inl ⟨rfl, by simp, _, rfl⟩) (hb hby diz_78) Bd.notSynchronized (by rw [e0]; exact ⟨_, k, rfl, N0, rfl, hk1, hk2⟩) (by decide) (by decide))
          by_cases hs2 : x4 < (4 : Int32)
          ·
            refine hst (fun _ kt => XS.icmpYes X0.here hx rfl (pc0 := 63) (pc' := 73) rfl (hb hby diz_63) rfl (tlt hs2).1 (by decide) (by decide) kt) ?_
            show G (s₁.setTop (mkF mI 73 #[.val (.int x4), .val (.int n4)] []))
            exact J73 _ _ (own_Zlt z4 (by decide) (by have q := hs2; rw [Int32.lt_iff_toInt_lt, show (4 : Int32).toInt = 4 from by decide] at q; exact q))
          ·
            refine hst (fun _ kt => XS.icmpNo X0.here hx rfl (hb hby diz_63) rfl (flt hs2).1 kt) ?_
            show G (s₁.setTop (mkF mI 66 #[.val (.int x4), .val (.int n4)] []))
            refine o_iinc hst X0.here hx (hb hby diz_66) (pc' := 69) rfl rfl (Lt := #[.val (.int x4), .val (.int (n4 + (-2 : Int32)))]) rfl ?_
            refine o_iloadN hst X0.here hx (hb hby diz_69) (pc' := 70) rfl rfl ?_
            refine o_iconst hst X0.here hx (hb hby diz_70) (pc' := 71) rfl (z := (2 : Int32)) rfl ?_
            refine o_iushr hst X0.here hx (hb hby diz_71) (pc' := 72) rfl ?_
            refine o_istoreN hst X0.here hx (hb hby diz_72) (pc' := 73) rfl (Lt := #[.val (.int ((x4.toUInt32 >>> ((2 : Int32) &&& 31).toUInt32).toInt32)), .val (.int (n4 + (-2 : Int32)))]) rfl ?_
            have hb_ := own_Zb z4 (by decide)
            exact J73 _ _ (own_Zge (s := 2) z4 (by have q := hs2; rw [Int32.lt_iff_toInt_lt, show (4 : Int32).toInt = 4 from by decide] at q; exact Int.not_lt.mp q) (own_Zn hb_.1 hb_.2.1 (by decide) (by decide)) (own_Zu hb_.2.2 (by decide) (by decide)))
        by_cases hs4 : x8 < (16 : Int32)
        ·
          refine hst (fun _ kt => XS.icmpYes X0.here hx rfl (pc0 := 51) (pc' := 61) rfl (hb hby diz_51) rfl (tlt hs4).1 (by decide) (by decide) kt) ?_
          show G (s₁.setTop (mkF mI 61 #[.val (.int x8), .val (.int n8)] []))
          exact J61 _ _ (own_Zlt z8 (by decide) (by have q := hs4; rw [Int32.lt_iff_toInt_lt, show (16 : Int32).toInt = 16 from by decide] at q; exact q))
        ·
          refine hst (fun _ kt => XS.icmpNo X0.here hx rfl (hb hby diz_51) rfl (flt hs4).1 kt) ?_
          show G (s₁.setTop (mkF mI 54 #[.val (.int x8), .val (.int n8)] []))
          refine o_iinc hst X0.here hx (hb hby diz_54) (pc' := 57) rfl rfl (Lt := #[.val (.int x8), .val (.int (n8 + (-4 : Int32)))]) rfl ?_
          refine o_iloadN hst X0.here hx (hb hby diz_57) (pc' := 58) rfl rfl ?_
          refine o_iconst hst X0.here hx (hb hby diz_58) (pc' := 59) rfl (z := (4 : Int32)) rfl ?_
          refine o_iushr hst X0.here hx (hb hby diz_59) (pc' := 60) rfl ?_
          refine o_istoreN hst X0.here hx (hb hby diz_60) (pc' := 61) rfl (Lt := #[.val (.int ((x8.toUInt32 >>> ((4 : Int32) &&& 31).toUInt32).toInt32)), .val (.int (n8 + (-4 : Int32)))]) rfl ?_
          have hb_ := own_Zb z8 (by decide)
          exact J61 _ _ (own_Zge (s := 4) z8 (by have q := hs4; rw [Int32.lt_iff_toInt_lt, show (16 : Int32).toInt = 16 from by decide] at q; exact Int.not_lt.mp q) (own_Zn hb_.1 hb_.2.1 (by decide) (by decide)) (own_Zu hb_.2.2 (by decide) (by decide)))
      by_cases hs8 : x16 < (256 : Int32)
      ·
        refine hst (fun _ kt => XS.icmpYes X0.here hx rfl (pc0 := 37) (pc' := 48) rfl (hb hby diz_37) rfl (tlt hs8).1 (by decide) (by decide) kt) ?_
        show G (s₁.setTop (mkF mI 48 #[.val (.int x16), .val (.int n16)] []))
        exact J48 _ _ (own_Zlt z16 (by decide) (by have q := hs8; rw [Int32.lt_iff_toInt_lt, show (256 : Int32).toInt = 256 from by decide] at q; exact q))
      ·
        refine hst (fun _ kt => XS.icmpNo X0.here hx rfl (hb hby diz_37) rfl (flt hs8).1 kt) ?_
        show G (s₁.setTop (mkF mI 40 #[.val (.int x16), .val (.int n16)] []))
        refine o_iinc hst X0.here hx (hb hby diz_40) (pc' := 43) rfl rfl (Lt := #[.val (.int x16), .val (.int (n16 + (-8 : Int32)))]) rfl ?_
        refine o_iloadN hst X0.here hx (hb hby diz_43) (pc' := 44) rfl rfl ?_
        refine o_bipush hst X0.here hx (hb hby diz_44) (pc' := 46) rfl (z := (8 : Int32)) rfl ?_
        refine o_iushr hst X0.here hx (hb hby diz_46) (pc' := 47) rfl ?_
        refine o_istoreN hst X0.here hx (hb hby diz_47) (pc' := 48) rfl (Lt := #[.val (.int ((x16.toUInt32 >>> ((8 : Int32) &&& 31).toUInt32).toInt32)), .val (.int (n16 + (-8 : Int32)))]) rfl ?_
        have hb_ := own_Zb z16 (by decide)
        exact J48 _ _ (own_Zge (s := 8) z16 (by have q := hs8; rw [Int32.lt_iff_toInt_lt, show (256 : Int32).toInt = 256 from by decide] at q; exact Int.not_lt.mp q) (own_Zn hb_.1 hb_.2.1 (by decide) (by decide)) (own_Zu hb_.2.2 (by decide) (by decide)))
    by_cases hs16 : ii < (65536 : Int32)
    ·
      refine hst (fun _ kt => XS.icmpYes X0.here hx rfl (pc0 := 22) (pc' := 33) rfl (hb hby diz_22) rfl (tlt hs16).1 (by decide) (by decide) kt) ?_
      show G (s₁.setTop (mkF mI 33 #[.val (.int ii), .val (.int (31 : Int32))] []))
      exact J33 _ _ (own_Zlt z0 (by decide) (by have q := hs16; rw [Int32.lt_iff_toInt_lt, show (65536 : Int32).toInt = 65536 from by decide] at q; exact q))
    ·
      refine hst (fun _ kt => XS.icmpNo X0.here hx rfl (hb hby diz_22) rfl (flt hs16).1 kt) ?_
      show G (s₁.setTop (mkF mI 25 #[.val (.int ii), .val (.int (31 : Int32))] []))
      refine o_iinc hst X0.here hx (hb hby diz_25) (pc' := 28) rfl rfl (Lt := #[.val (.int ii), .val (.int ((31 : Int32) + (-16 : Int32)))]) rfl ?_
      refine o_iloadN hst X0.here hx (hb hby diz_28) (pc' := 29) rfl rfl ?_
      refine o_bipush hst X0.here hx (hb hby diz_29) (pc' := 31) rfl (z := (16 : Int32)) rfl ?_
      refine o_iushr hst X0.here hx (hb hby diz_31) (pc' := 32) rfl ?_
      refine o_istoreN hst X0.here hx (hb hby diz_32) (pc' := 33) rfl (Lt := #[.val (.int ((ii.toUInt32 >>> ((16 : Int32) &&& 31).toUInt32).toInt32)), .val (.int ((31 : Int32) + (-16 : Int32)))]) rfl ?_
      have hb_ := own_Zb z0 (by decide)
      exact J33 _ _ (own_Zge (s := 16) z0 (by have q := hs16; rw [Int32.lt_iff_toInt_lt, show (65536 : Int32).toInt = 65536 from by decide] at q; exact Int.not_lt.mp q) (own_Zn hb_.1 hb_.2.1 (by decide) (by decide)) (own_Zu hb_.2.2 (by decide) (by decide)))
  ·
    refine hst (fun _ kt => XS.ifNo X0.here hx rfl (hb hby diz_1) rfl ((if0 _ _).trans (flt hp).2.2.1) kt) ?_
    show G (s₁.setTop (mkF mI 4 #[.val (.int ii), .unset] []))
    refine o_iloadN hst X0.here hx (hb hby diz_4) (pc' := 5) rfl rfl ?_
    have h0i : ii = (0 : Int32) := by rw [Int32.lt_iff_toInt_lt, show (0 : Int32).toInt = 0 from rfl] at hp; apply Int32.toInt_inj.mp; rw [show (0 : Int32).toInt = 0 from rfl]; omega
    refine hst (fun _ kt => XS.ifNo X0.here hx rfl (hb hby diz_5) rfl ((if0 _ _).trans (teq h0i).2) kt) ?_
    show G (s₁.setTop (mkF mI 8 #[.val (.int ii), .unset] []))
    refine o_bipush hst X0.here hx (hb hby diz_8) (pc' := 10) rfl (z := (32 : Int32)) rfl ?_
    refine o_goto hst X0.here hx (hb hby diz_10) (by decide) (pc' := 14) (by decide) ?_
    exact hend (own_goRet X0 hx Bd.returns rfl (Or.inl ⟨rfl, by simp, _, rfl⟩) (hb hby diz_14) Bd.notSynchronized (by rw [e0]; exact ⟨_, 0, rfl, N0, rfl, by decide, by decide, by rw [h0i]; decide, Or.inl rfl⟩) (by decide) (by decide))
theorem dlz_0 : decode jdk_35_method_48_code 0 = .ok (.lload_n 0, 1) := by decide +kernel
theorem dlz_1 : decode jdk_35_method_48_code 1 = .ok (.bipush 32, 2) := by decide +kernel
theorem dlz_3 : decode jdk_35_method_48_code 3 = .ok (.lushr, 1) := by decide +kernel
theorem dlz_4 : decode jdk_35_method_48_code 4 = .ok (.l2i, 1) := by decide +kernel
theorem dlz_5 : decode jdk_35_method_48_code 5 = .ok (.istore_n 2, 1) := by decide +kernel
theorem dlz_6 : decode jdk_35_method_48_code 6 = .ok (.iload_n 2, 1) := by decide +kernel
theorem dlz_7 : decode jdk_35_method_48_code 7 = .ok (.ifCond .ne 14, 3) := by decide +kernel
theorem dlz_10 : decode jdk_35_method_48_code 10 = .ok (.bipush 32, 2) := by decide +kernel
theorem dlz_12 : decode jdk_35_method_48_code 12 = .ok (.lload_n 0, 1) := by decide +kernel
theorem dlz_13 : decode jdk_35_method_48_code 13 = .ok (.l2i, 1) := by decide +kernel
theorem dlz_14 : decode jdk_35_method_48_code 14 = .ok (.invokestatic 308, 3) := by decide +kernel
theorem dlz_17 : decode jdk_35_method_48_code 17 = .ok (.iadd, 1) := by decide +kernel
theorem dlz_18 : decode jdk_35_method_48_code 18 = .ok (.goto 7, 3) := by decide +kernel
theorem dlz_25 : decode jdk_35_method_48_code 25 = .ok (.ireturn, 1) := by decide +kernel
theorem ef_lz (mI : MethodId) (uu : Int64) : entryFrame mI #[(.long uu)] 3 = mkF mI 0 #[.val (.long uu), .second, .unset] [] := by first | (simp [entryFrame, mkF, argsToLocals, Value.category]; done) | rfl
theorem pn_lz : plainName "java/lang/Long" = true := by first | decide +kernel | (simp [plainName, overriddenIn]; done)
set_option maxRecDepth 65536 in
set_option maxHeartbeats 40000000 in
theorem rmlz (lL : Launch) (Z : State) (a0 : Array Value) (hw : ∀ d ∈ tables_1, d.before a0 Z = true) (ws : List Jvm.Cond) (uu : Int64) (h0 : Heap) (n0 : Nat) (Z0 : n0 ≤ h0.size) (hu0 : 0 ≤ uu.toInt) (hu1 : uu.toInt ≤ 2147483647) :
    MetFree lL (⟨"java/lang/Long", "numberOfLeadingZeros", "(J)I"⟩ : MethodName) (head1 (Jvm.Cond.code (⟨"java/lang/Long", "numberOfLeadingZeros", "(J)I"⟩ : MethodName) jdk_35_method_48_code 3 (some .int) :: ws) ({ frames := 1, cells := 0, slots := 0, locals := 14 } : Room)) (fun a_ U_ => a_ = #[(.long uu)] ∧ Z.Warmed39 U_.vm ∧ U_.heap = h0) (fun _ _ _ _ _ => True) (fun _ U_ o_ W_ => ∃ v_ L_, o_ = .returned v_ ∧ own_Qnz uu.toInt.toNat 64 h0 n0 v_ W_.heap L_ ∧ FrameEnd U_ o_ W_ L_ ({ frames := 1, cells := 0, slots := 0, locals := 14 } : Room).cells ({ frames := 1, cells := 0, slots := 0, locals := 14 } : Room).slots) := by
  refine MetFree.of_bodySF (plainFor_of_name pn_lz) hisR ?_
  intro pP eE sS mI args below meth cC s₁ Bd hml0 hP hK
  obtain ⟨rfl, hZ, hh⟩ := hP
  have hx := Bd.exec
  have hby := Bd.bytes
  have hml : cC.maxLocals = 3 := hml0
  have hown : sS.vm.findClass "java/lang/Long" = some mI.cls := by have z := findClass_of_methodNamed Bd.named; exact z
  have hnm := (name_of_methodNamed Bd.named Bd.method).1
  have X0 : Stand pP lL eE ({ frames := 1, cells := 0, slots := 0, locals := 14 } : Room) sS mI #[(.long uu)] below meth cC s₁ [] 0 0 := Stand.of_body Bd
  have e0 : s₁.heap = h0 := by rw [← hh, Bd.state]; rfl
  have N0 := Fr.nil n0
  obtain ⟨G, hG, hst, hend⟩ := own_abs pP eE below sS (own_Qnz uu.toInt.toNat 64 h0 n0) ({ frames := 1, cells := 0, slots := 0, locals := 14 } : Room).cells ({ frames := 1, cells := 0, slots := 0, locals := 14 } : Room).slots
  refine hG (S := s₁.setTop (entryFrame mI #[(.long uu)] 3)) (hst (fun t_ kt_ => castTop (ef_lz mI uu) kt_) ?_)
  show G (s₁.setTop (mkF mI 0 #[.val (.long uu), .second, .unset] []))
  refine o_lloadN hst X0.here hx (hb hby dlz_0) (pc' := 1) rfl rfl ?_
  refine o_bipush hst X0.here hx (hb hby dlz_1) (pc' := 3) rfl (z := (32 : Int32)) rfl ?_
  refine o_lushr hst X0.here hx (hb hby dlz_3) (pc' := 4) rfl ?_
  refine o_l2i hst X0.here hx (hb hby dlz_4) (pc' := 5) rfl ?_
  refine o_istoreN hst X0.here hx (hb hby dlz_5) (pc' := 6) rfl (Lt := #[.val (.long uu), .second, .val (.int (((uu.toUInt64 >>> ((32 : Int32) &&& 0x3f).toInt64.toUInt64).toInt64).toInt32))]) rfl ?_
  refine o_iloadN hst X0.here hx (hb hby dlz_6) (pc' := 7) rfl rfl ?_
  have hc7 : (((uu.toUInt64 >>> ((32 : Int32) &&& 0x3f).toInt64.toUInt64).toInt64).toInt32) = (0 : Int32) := own_hi hu0 hu1
  refine hst (fun _ kt => XS.ifNo X0.here hx rfl (hb hby dlz_7) rfl ((if0 _ _).trans (teq hc7).2) kt) ?_
  show G (s₁.setTop (mkF mI 10 #[.val (.long uu), .second, .val (.int (((uu.toUInt64 >>> ((32 : Int32) &&& 0x3f).toInt64.toUInt64).toInt64).toInt32))] []))
  refine o_bipush hst X0.here hx (hb hby dlz_10) (pc' := 12) rfl (z := (32 : Int32)) rfl ?_
  refine o_lloadN hst X0.here hx (hb hby dlz_12) (pc' := 13) rfl rfl ?_
  refine o_l2i hst X0.here hx (hb hby dlz_13) (pc' := 14) rfl ?_
  obtain ⟨_, _, ⟨T_1, L_1, k_1, n_1⟩, -, X_1, ⟨Lc_1, hQ_1, l_1, y_1, z_1⟩, st_1⟩ := Jvm.LawKit.callS X0 hx (y := (⟨"java/lang/Integer", "numberOfLeadingZeros", "(I)I"⟩ : MethodName)) hown (mvT hZ (own_w42 hw)) (mvT hZ (own_w43 hw)) (mvT hZ (own_w44 hw)) (mvT hZ (own_w45 hw)) (by decide) (backOf (W := 1) (rmiz lL Z a0 hw [] (uu.toInt32)  h0 n0 Z0 (by rw [own_l2i hu0 hu1]; exact hu0)) hZ (own_w45 hw) (own_w44 hw) (by decide) (by decide)) (g := (mkF mI 14 #[.val (.long uu), .second, .val (.int (((uu.toUInt64 >>> ((32 : Int32) &&& 0x3f).toInt64.toUInt64).toInt64).toInt32))] [(.int (uu.toInt32)), (.int (32 : Int32))])) rfl (by rw [hml]; rfl) (argsL := [(.int (uu.toInt32))]) (rest := [(.int (32 : Int32))]) (lenOf pd_0 rfl) rfl (by show 2 * 0 + _ ≤ _; exact Nat.le_of_eq rfl) (hb hby dlz_14) (fun _ _ => ⟨rfl, e0, (by decide : 0 + 0 ≤ _), (by decide : 0 + 0 ≤ _)⟩)
  dsimp only [Pt.U, Pt.locs, Pt.cells, Pt.slots] at X_1 l_1 y_1 z_1 st_1 hQ_1
  subst l_1 y_1 z_1
  obtain ⟨r, k, rfl, N_1q, eh_1, hr, hk⟩ := hQ_1
  rw [own_l2i hu0 hu1] at hk
  have N_1 := Fr.app N0 N_1q
  refine hst (fun _ kt => st_1 _ kt) ?_
  show G (T_1.setTop (mkF mI 17 #[.val (.long uu), .second, .val (.int (((uu.toUInt64 >>> ((32 : Int32) &&& 0x3f).toInt64.toUInt64).toInt64).toInt32))] [(.int r), (.int (32 : Int32))]))
  refine o_iadd hst X_1.here hx (hb hby dlz_17) (pc' := 18) rfl ?_
  refine o_goto hst X_1.here hx (hb hby dlz_18) (by decide) (pc' := 25) (by decide) ?_
  exact hend (own_goRet X_1 hx Bd.returns rfl (Or.inl ⟨rfl, by simp, _, rfl⟩) (hb hby dlz_25) Bd.notSynchronized (by rw [eh_1]; exact ⟨_, k, rfl, N_1, rfl, (by
    have a1 := c_iadd (32 : Int32) r
    have a2 := Int32.le_toInt ((32 : Int32) + r)
    have a3 := Int32.toInt_lt ((32 : Int32) + r)
    have a4 : (32 : Int32).toInt = 32 := rfl
    have a5 := hk.1
    omega), hk⟩) (by decide) (by decide))
theorem dln_0 : decode prog_19_method_8_code 0 = .ok (.bipush 64, 2) := by decide +kernel
theorem dln_2 : decode prog_19_method_8_code 2 = .ok (.iload_n 2, 1) := by decide +kernel
theorem dln_3 : decode prog_19_method_8_code 3 = .ok (.i2l, 1) := by decide +kernel
theorem dln_4 : decode prog_19_method_8_code 4 = .ok (.lconst 1, 1) := by decide +kernel
theorem dln_5 : decode prog_19_method_8_code 5 = .ok (.lsub, 1) := by decide +kernel
theorem dln_6 : decode prog_19_method_8_code 6 = .ok (.invokestatic 97, 3) := by decide +kernel
theorem dln_9 : decode prog_19_method_8_code 9 = .ok (.isub, 1) := by decide +kernel
theorem dln_10 : decode prog_19_method_8_code 10 = .ok (.istore_n 3, 1) := by decide +kernel
theorem dln_11 : decode prog_19_method_8_code 11 = .ok (.lconst 1, 1) := by decide +kernel
theorem dln_12 : decode prog_19_method_8_code 12 = .ok (.iload_n 3, 1) := by decide +kernel
theorem dln_13 : decode prog_19_method_8_code 13 = .ok (.lshl, 1) := by decide +kernel
theorem dln_14 : decode prog_19_method_8_code 14 = .ok (.lconst 1, 1) := by decide +kernel
theorem dln_15 : decode prog_19_method_8_code 15 = .ok (.lsub, 1) := by decide +kernel
theorem dln_16 : decode prog_19_method_8_code 16 = .ok (.lstore 4, 2) := by decide +kernel
theorem dln_18 : decode prog_19_method_8_code 18 = .ok (.lload_n 0, 1) := by decide +kernel
theorem dln_19 : decode prog_19_method_8_code 19 = .ok (.lload 4, 2) := by decide +kernel
theorem dln_21 : decode prog_19_method_8_code 21 = .ok (.land, 1) := by decide +kernel
theorem dln_22 : decode prog_19_method_8_code 22 = .ok (.lstore 6, 2) := by decide +kernel
theorem dln_24 : decode prog_19_method_8_code 24 = .ok (.lload 6, 2) := by decide +kernel
theorem dln_26 : decode prog_19_method_8_code 26 = .ok (.iload_n 2, 1) := by decide +kernel
theorem dln_27 : decode prog_19_method_8_code 27 = .ok (.i2l, 1) := by decide +kernel
theorem dln_28 : decode prog_19_method_8_code 28 = .ok (.lcmp, 1) := by decide +kernel
theorem dln_29 : decode prog_19_method_8_code 29 = .ok (.ifCond .lt 11, 3) := by decide +kernel
theorem dln_32 : decode prog_19_method_8_code 32 = .ok (.lload_n 0, 1) := by decide +kernel
theorem dln_33 : decode prog_19_method_8_code 33 = .ok (.lload 4, 2) := by decide +kernel
theorem dln_35 : decode prog_19_method_8_code 35 = .ok (.iconst 1, 1) := by decide +kernel
theorem dln_36 : decode prog_19_method_8_code 36 = .ok (.lushr, 1) := by decide +kernel
theorem dln_37 : decode prog_19_method_8_code 37 = .ok (.land, 1) := by decide +kernel
theorem dln_38 : decode prog_19_method_8_code 38 = .ok (.lstore 6, 2) := by decide +kernel
theorem dln_40 : decode prog_19_method_8_code 40 = .ok (.lload 6, 2) := by decide +kernel
theorem dln_42 : decode prog_19_method_8_code 42 = .ok (.lreturn, 1) := by decide +kernel
theorem ef_ln (mI : MethodId) (v : Int64) (n : Int32) : entryFrame mI #[(.long v), (.int n)] 8 = mkF mI 0 #[.val (.long v), .second, .val (.int n), .unset, .unset, .unset, .unset, .unset] [] := by first | (simp [entryFrame, mkF, argsToLocals, Value.category]; done) | rfl
theorem pn_ln : plainName own_BF = true := by first | decide +kernel | (simp [plainName, overriddenIn]; done)
set_option maxRecDepth 65536 in
set_option maxHeartbeats 40000000 in
theorem rmln (lL : Launch) (Z : State) (a0 : Array Value) (hw : ∀ d ∈ tables_1, d.before a0 Z = true) (ws : List Jvm.Cond) (v : Int64) (n : Int32) (h0 : Heap) (n0 : Nat) (Z0 : n0 ≤ h0.size) (hn1 : 1 ≤ n.toInt) :
    MetFree lL (⟨own_BF, "linear", "(JI)J"⟩ : MethodName) (head1 (Jvm.Cond.code (⟨own_BF, "linear", "(JI)J"⟩ : MethodName) prog_19_method_8_code 8 (some .long) :: ws) ({ frames := 2, cells := 0, slots := 0, locals := 29 } : Room)) (fun a_ U_ => a_ = #[(.long v), (.int n)] ∧ Z.Warmed39 U_.vm ∧ U_.heap = h0) (fun _ _ _ _ _ => True) (fun _ U_ o_ W_ => ∃ v_ L_, o_ = .returned v_ ∧ own_Qln v n h0 n0 v_ W_.heap L_ ∧ FrameEnd U_ o_ W_ L_ ({ frames := 2, cells := 0, slots := 0, locals := 29 } : Room).cells ({ frames := 2, cells := 0, slots := 0, locals := 29 } : Room).slots) := by
  refine MetFree.of_bodySF (plainFor_of_name pn_ln) hisR ?_
  intro pP eE sS mI args below meth cC s₁ Bd hml0 hP hK
  obtain ⟨rfl, hZ, hh⟩ := hP
  have hx := Bd.exec
  have hby := Bd.bytes
  have hml : cC.maxLocals = 8 := hml0
  have hown : sS.vm.findClass own_BF = some mI.cls := by have z := findClass_of_methodNamed Bd.named; exact z
  have hnm := (name_of_methodNamed Bd.named Bd.method).1
  have X0 : Stand pP lL eE ({ frames := 2, cells := 0, slots := 0, locals := 29 } : Room) sS mI #[(.long v), (.int n)] below meth cC s₁ [] 0 0 := Stand.of_body Bd
  have e0 : s₁.heap = h0 := by rw [← hh, Bd.state]; rfl
  have N0 := Fr.nil n0
  obtain ⟨G, hG, hst, hend⟩ := own_abs pP eE below sS (own_Qln v n h0 n0) ({ frames := 2, cells := 0, slots := 0, locals := 29 } : Room).cells ({ frames := 2, cells := 0, slots := 0, locals := 29 } : Room).slots
  refine hG (S := s₁.setTop (entryFrame mI #[(.long v), (.int n)] 8)) (hst (fun t_ kt_ => castTop (ef_ln mI v n) kt_) ?_)
  have hs := own_n1s hn1
  have hn2 := Int32.toInt_lt n
  show G (s₁.setTop (mkF mI 0 #[.val (.long v), .second, .val (.int n), .unset, .unset, .unset, .unset, .unset] []))
  refine o_bipush hst X0.here hx (hb hby dln_0) (pc' := 2) rfl (z := (64 : Int32)) rfl ?_
  refine o_iloadN hst X0.here hx (hb hby dln_2) (pc' := 3) rfl rfl ?_
  refine o_i2l hst X0.here hx (hb hby dln_3) (pc' := 4) rfl ?_
  refine o_lconst hst X0.here hx (hb hby dln_4) (pc' := 5) rfl (z := (1 : Int64)) rfl ?_
  refine o_lsub hst X0.here hx (hb hby dln_5) (pc' := 6) rfl ?_
  obtain ⟨_, _, ⟨T_1, L_1, k_1, n_1⟩, -, X_1, ⟨Lc_1, hQ_1, l_1, y_1, z_1⟩, st_1⟩ := Jvm.LawKit.callS X0 hx (y := (⟨"java/lang/Long", "numberOfLeadingZeros", "(J)I"⟩ : MethodName)) hown (mvT hZ (own_w38 hw)) (mvT hZ (own_w39 hw)) (mvT hZ (own_w40 hw)) (mvT hZ (own_w41 hw)) (by decide) (backOf (W := 1) (rmlz lL Z a0 hw [] ((n.toInt64) - (1 : Int64))  h0 n0 Z0 (by omega) (by omega)) hZ (own_w41 hw) (own_w40 hw) (by decide) (by decide)) (g := (mkF mI 6 #[.val (.long v), .second, .val (.int n), .unset, .unset, .unset, .unset, .unset] [(.long ((n.toInt64) - (1 : Int64))), (.int (64 : Int32))])) rfl (by rw [hml]; rfl) (argsL := [(.long ((n.toInt64) - (1 : Int64)))]) (rest := [(.int (64 : Int32))]) (lenOf pd_1 rfl) rfl (by show 2 * 0 + _ ≤ _; exact Nat.le_of_eq rfl) (hb hby dln_6) (fun _ _ => ⟨rfl, e0, (by decide : 0 + 0 ≤ _), (by decide : 0 + 0 ≤ _)⟩)
  dsimp only [Pt.U, Pt.locs, Pt.cells, Pt.slots] at X_1 l_1 y_1 z_1 st_1 hQ_1
  subst l_1 y_1 z_1
  obtain ⟨r, k, rfl, N_1q, eh_1, hr, hk⟩ := hQ_1
  have N_1 := Fr.app N0 N_1q
  refine hst (fun _ kt => st_1 _ kt) ?_
  show G (T_1.setTop (mkF mI 9 #[.val (.long v), .second, .val (.int n), .unset, .unset, .unset, .unset, .unset] [(.int r), (.int (64 : Int32))]))
  refine o_isub hst X_1.here hx (hb hby dln_9) (pc' := 10) rfl ?_
  refine o_istoreN hst X_1.here hx (hb hby dln_10) (pc' := 11) rfl (Lt := #[.val (.long v), .second, .val (.int n), .val (.int ((64 : Int32) - r)), .unset, .unset, .unset, .unset]) rfl ?_
  refine o_lconst hst X_1.here hx (hb hby dln_11) (pc' := 12) rfl (z := (1 : Int64)) rfl ?_
  refine o_iloadN hst X_1.here hx (hb hby dln_12) (pc' := 13) rfl rfl ?_
  refine o_lshl hst X_1.here hx (hb hby dln_13) (pc' := 14) rfl ?_
  refine o_lconst hst X_1.here hx (hb hby dln_14) (pc' := 15) rfl (z := (1 : Int64)) rfl ?_
  refine o_lsub hst X_1.here hx (hb hby dln_15) (pc' := 16) rfl ?_
  have hM := own_mk hr hk
  generalize (((1 : Int64) <<< (((64 : Int32) - r) &&& 0x3f).toInt64) - (1 : Int64)) = mask at hM ⊢
  show G (T_1.setTop (mkF mI 16 #[.val (.long v), .second, .val (.int n), .val (.int ((64 : Int32) - r)), .unset, .unset, .unset, .unset] [(.long mask)]))
  refine o_lstore hst X_1.here hx (hb hby dln_16) (pc' := 18) rfl (Lt := #[.val (.long v), .second, .val (.int n), .val (.int ((64 : Int32) - r)), .val (.long mask), .second, .unset, .unset]) rfl ?_
  refine o_lloadN hst X_1.here hx (hb hby dln_18) (pc' := 19) rfl rfl ?_
  refine o_lload hst X_1.here hx (hb hby dln_19) (pc' := 21) rfl rfl ?_
  refine o_land hst X_1.here hx (hb hby dln_21) (pc' := 22) rfl ?_
  refine o_lstore hst X_1.here hx (hb hby dln_22) (pc' := 24) rfl (Lt := #[.val (.long v), .second, .val (.int n), .val (.int ((64 : Int32) - r)), .val (.long mask), .second, .val (.long (v &&& mask)), .second]) rfl ?_
  refine o_lload hst X_1.here hx (hb hby dln_24) (pc' := 26) rfl rfl ?_
  refine o_iloadN hst X_1.here hx (hb hby dln_26) (pc' := 27) rfl rfl ?_
  refine o_i2l hst X_1.here hx (hb hby dln_27) (pc' := 28) rfl ?_
  refine o_lcmp hst X_1.here hx (hb hby dln_28) (pc' := 29) rfl ?_
  by_cases hc : (v &&& mask) < (n.toInt64)
  ·
    refine hst (fun _ kt => XS.ifYes X_1.here hx rfl (pc0 := 29) (pc' := 40) rfl (hb hby dln_29) rfl ((if0 _ _).trans (tlt ((lw_lt _ _).mpr hc)).1) (by decide) (by decide) kt) ?_
    show G (T_1.setTop (mkF mI 40 #[.val (.long v), .second, .val (.int n), .val (.int ((64 : Int32) - r)), .val (.long mask), .second, .val (.long (v &&& mask)), .second] []))
    refine o_lload hst X_1.here hx (hb hby dln_40) (pc' := 42) rfl rfl ?_
    exact hend (own_goRet X_1 hx Bd.returns rfl (Or.inr (Or.inl ⟨rfl, rfl, _, rfl⟩)) (hb hby dln_42) Bd.notSynchronized (by rw [eh_1]; exact ⟨mask, hM, by rw [own_lin, if_pos hc], N_1, rfl⟩) (by decide) (by decide))
  ·
    refine hst (fun _ kt => XS.ifNo X_1.here hx rfl (hb hby dln_29) rfl ((if0 _ _).trans (flt (mt (lw_lt _ _).mp hc)).1) kt) ?_
    show G (T_1.setTop (mkF mI 32 #[.val (.long v), .second, .val (.int n), .val (.int ((64 : Int32) - r)), .val (.long mask), .second, .val (.long (v &&& mask)), .second] []))
    refine o_lloadN hst X_1.here hx (hb hby dln_32) (pc' := 33) rfl rfl ?_
    refine o_lload hst X_1.here hx (hb hby dln_33) (pc' := 35) rfl rfl ?_
    refine o_iconst hst X_1.here hx (hb hby dln_35) (pc' := 36) rfl (z := (1 : Int32)) rfl ?_
    refine o_lushr hst X_1.here hx (hb hby dln_36) (pc' := 37) rfl ?_
    refine o_land hst X_1.here hx (hb hby dln_37) (pc' := 38) rfl ?_
    show G (T_1.setTop (mkF mI 38 #[.val (.long v), .second, .val (.int n), .val (.int ((64 : Int32) - r)), .val (.long mask), .second, .val (.long (v &&& mask)), .second] [(.long (v &&& (own_u1 mask)))]))
    refine o_lstore hst X_1.here hx (hb hby dln_38) (pc' := 40) rfl (Lt := #[.val (.long v), .second, .val (.int n), .val (.int ((64 : Int32) - r)), .val (.long mask), .second, .val (.long (v &&& (own_u1 mask))), .second]) rfl ?_
    refine o_lload hst X_1.here hx (hb hby dln_40) (pc' := 42) rfl rfl ?_
    exact hend (own_goRet X_1 hx Bd.returns rfl (Or.inr (Or.inl ⟨rfl, rfl, _, rfl⟩)) (hb hby dln_42) Bd.notSynchronized (by rw [eh_1]; exact ⟨mask, hM, by rw [own_lin, if_neg hc], N_1, rfl⟩) (by decide) (by decide))
theorem dab_0 : decode jdk_29_method_61_code 0 = .ok (.lload_n 0, 1) := by decide +kernel
theorem dab_1 : decode jdk_29_method_61_code 1 = .ok (.lconst 0, 1) := by decide +kernel
theorem dab_2 : decode jdk_29_method_61_code 2 = .ok (.lcmp, 1) := by decide +kernel
theorem dab_3 : decode jdk_29_method_61_code 3 = .ok (.ifCond .ge 8, 3) := by decide +kernel
theorem dab_6 : decode jdk_29_method_61_code 6 = .ok (.lload_n 0, 1) := by decide +kernel
theorem dab_7 : decode jdk_29_method_61_code 7 = .ok (.lneg, 1) := by decide +kernel
theorem dab_8 : decode jdk_29_method_61_code 8 = .ok (.goto 4, 3) := by decide +kernel
theorem dab_11 : decode jdk_29_method_61_code 11 = .ok (.lload_n 0, 1) := by decide +kernel
theorem dab_12 : decode jdk_29_method_61_code 12 = .ok (.lreturn, 1) := by decide +kernel
theorem ef_ab (mI : MethodId) (v : Int64) : entryFrame mI #[(.long v)] 2 = mkF mI 0 #[.val (.long v), .second] [] := by first | (simp [entryFrame, mkF, argsToLocals, Value.category]; done) | rfl
set_option maxRecDepth 65536 in
set_option maxHeartbeats 40000000 in
theorem rmab (lL : Launch) (Z : State) (a0 : Array Value) (hw : ∀ d ∈ tables_1, d.before a0 Z = true) (ws : List Jvm.Cond) (v : Int64) (h0 : Heap) (n0 : Nat) (Z0 : n0 ≤ h0.size) :
    MetFree lL (⟨"java/lang/Math", "abs", "(J)J"⟩ : MethodName) (head1 (Jvm.Cond.code (⟨"java/lang/Math", "abs", "(J)J"⟩ : MethodName) jdk_29_method_61_code 2 (some .long) :: ws) ({ frames := 0, cells := 0, slots := 0, locals := 0 } : Room)) (fun a_ U_ => a_ = #[(.long v)] ∧ Z.Warmed39 U_.vm ∧ U_.heap = h0) (fun _ _ _ _ _ => True) (fun _ U_ o_ W_ => ∃ v_ L_, o_ = .returned v_ ∧ own_QJ (own_ab v) h0 n0 v_ W_.heap L_ ∧ FrameEnd U_ o_ W_ L_ ({ frames := 0, cells := 0, slots := 0, locals := 0 } : Room).cells ({ frames := 0, cells := 0, slots := 0, locals := 0 } : Room).slots) := by
  refine MetFree.of_bodySF (Jvm.Free.JP.mathPlain rfl (by decide +kernel)) hisR ?_
  intro pP eE sS mI args below meth cC s₁ Bd hml0 hP hK
  obtain ⟨rfl, hZ, hh⟩ := hP
  have hx := Bd.exec
  have hby := Bd.bytes
  have hml : cC.maxLocals = 2 := hml0
  have hown : sS.vm.findClass "java/lang/Math" = some mI.cls := by have z := findClass_of_methodNamed Bd.named; exact z
  have hnm := (name_of_methodNamed Bd.named Bd.method).1
  have X0 : Stand pP lL eE ({ frames := 0, cells := 0, slots := 0, locals := 0 } : Room) sS mI #[(.long v)] below meth cC s₁ [] 0 0 := Stand.of_body Bd
  have e0 : s₁.heap = h0 := by rw [← hh, Bd.state]; rfl
  have N0 := Fr.nil n0
  obtain ⟨G, hG, hst, hend⟩ := own_abs pP eE below sS (own_QJ (own_ab v) h0 n0) ({ frames := 0, cells := 0, slots := 0, locals := 0 } : Room).cells ({ frames := 0, cells := 0, slots := 0, locals := 0 } : Room).slots
  refine hG (S := s₁.setTop (entryFrame mI #[(.long v)] 2)) (hst (fun t_ kt_ => castTop (ef_ab mI v) kt_) ?_)
  show G (s₁.setTop (mkF mI 0 #[.val (.long v), .second] []))
  refine o_lloadN hst X0.here hx (hb hby dab_0) (pc' := 1) rfl rfl ?_
  refine o_lconst hst X0.here hx (hb hby dab_1) (pc' := 2) rfl (z := (0 : Int64)) rfl ?_
  refine o_lcmp hst X0.here hx (hb hby dab_2) (pc' := 3) rfl ?_
  by_cases hc : v < (0 : Int64)
  ·
    refine hst (fun _ kt => XS.ifNo X0.here hx rfl (hb hby dab_3) rfl ((if0 _ _).trans (tlt ((lw_lt _ _).mpr hc)).2.1) kt) ?_
    show G (s₁.setTop (mkF mI 6 #[.val (.long v), .second] []))
    refine o_lloadN hst X0.here hx (hb hby dab_6) (pc' := 7) rfl rfl ?_
    refine o_lneg hst X0.here hx (hb hby dab_7) (pc' := 8) rfl ?_
    refine o_goto hst X0.here hx (hb hby dab_8) (by decide) (pc' := 12) (by decide) ?_
    exact hend (own_goRet X0 hx Bd.returns rfl (Or.inr (Or.inl ⟨rfl, rfl, _, rfl⟩)) (hb hby dab_12) Bd.notSynchronized (by rw [e0]; exact ⟨by rw [own_ab, if_pos hc], N0, rfl⟩) (by decide) (by decide))
  ·
    refine hst (fun _ kt => XS.ifYes X0.here hx rfl (pc0 := 3) (pc' := 11) rfl (hb hby dab_3) rfl ((if0 _ _).trans (flt (mt (lw_lt _ _).mp hc)).2.1) (by decide) (by decide) kt) ?_
    show G (s₁.setTop (mkF mI 11 #[.val (.long v), .second] []))
    refine o_lloadN hst X0.here hx (hb hby dab_11) (pc' := 12) rfl rfl ?_
    exact hend (own_goRet X0 hx Bd.returns rfl (Or.inr (Or.inl ⟨rfl, rfl, _, rfl⟩)) (hb hby dab_12) Bd.notSynchronized (by rw [e0]; exact ⟨by rw [own_ab, if_neg hc], N0, rfl⟩) (by decide) (by decide))
theorem dcb_0 : decode prog_19_method_7_code 0 = .ok (.iload_n 0, 1) := by decide +kernel
theorem dcb_1 : decode prog_19_method_7_code 1 = .ok (.iconst 1, 1) := by decide +kernel
theorem dcb_2 : decode prog_19_method_7_code 2 = .ok (.if_icmp .ge 17, 3) := by decide +kernel
theorem dcb_19 : decode prog_19_method_7_code 19 = .ok (.return_, 1) := by decide +kernel
theorem ef_cb (mI : MethodId) (n : Int32) : entryFrame mI #[(.int n)] 1 = mkF mI 0 #[.val (.int n)] [] := by first | (simp [entryFrame, mkF, argsToLocals, Value.category]; done) | rfl
theorem pn_cb : plainName own_BF = true := by first | decide +kernel | (simp [plainName, overriddenIn]; done)
set_option maxRecDepth 65536 in
set_option maxHeartbeats 40000000 in
theorem rmcb (lL : Launch) (Z : State) (a0 : Array Value) (hw : ∀ d ∈ tables_1, d.before a0 Z = true) (ws : List Jvm.Cond) (n : Int32) (h0 : Heap) (n0 : Nat) (Z0 : n0 ≤ h0.size) (hn1 : 1 ≤ n.toInt) :
    MetFree lL (⟨own_BF, "checkBucketCount", "(I)V"⟩ : MethodName) (head1 (Jvm.Cond.code (⟨own_BF, "checkBucketCount", "(I)V"⟩ : MethodName) prog_19_method_7_code 1 none :: ws) ({ frames := 0, cells := 0, slots := 0, locals := 0 } : Room)) (fun a_ U_ => a_ = #[(.int n)] ∧ Z.Warmed39 U_.vm ∧ U_.heap = h0) (fun _ _ _ _ _ => True) (fun _ U_ o_ W_ => ∃ v_ L_, o_ = .returned v_ ∧ own_QV h0 n0 v_ W_.heap L_ ∧ FrameEnd U_ o_ W_ L_ ({ frames := 0, cells := 0, slots := 0, locals := 0 } : Room).cells ({ frames := 0, cells := 0, slots := 0, locals := 0 } : Room).slots) := by
  refine MetFree.of_bodySF (plainFor_of_name pn_cb) hisR ?_
  intro pP eE sS mI args below meth cC s₁ Bd hml0 hP hK
  obtain ⟨rfl, hZ, hh⟩ := hP
  have hx := Bd.exec
  have hby := Bd.bytes
  have hml : cC.maxLocals = 1 := hml0
  have hown : sS.vm.findClass own_BF = some mI.cls := by have z := findClass_of_methodNamed Bd.named; exact z
  have hnm := (name_of_methodNamed Bd.named Bd.method).1
  have X0 : Stand pP lL eE ({ frames := 0, cells := 0, slots := 0, locals := 0 } : Room) sS mI #[(.int n)] below meth cC s₁ [] 0 0 := Stand.of_body Bd
  have e0 : s₁.heap = h0 := by rw [← hh, Bd.state]; rfl
  have N0 := Fr.nil n0
  obtain ⟨G, hG, hst, hend⟩ := own_abs pP eE below sS (own_QV h0 n0) ({ frames := 0, cells := 0, slots := 0, locals := 0 } : Room).cells ({ frames := 0, cells := 0, slots := 0, locals := 0 } : Room).slots
  refine hG (S := s₁.setTop (entryFrame mI #[(.int n)] 1)) (hst (fun t_ kt_ => castTop (ef_cb mI n) kt_) ?_)
  show G (s₁.setTop (mkF mI 0 #[.val (.int n)] []))
  refine o_iloadN hst X0.here hx (hb hby dcb_0) (pc' := 1) rfl rfl ?_
  refine o_iconst hst X0.here hx (hb hby dcb_1) (pc' := 2) rfl (z := (1 : Int32)) rfl ?_
  have hc2 : ¬ (n < (1 : Int32)) := by rw [Int32.lt_iff_toInt_lt, show (1 : Int32).toInt = 1 from rfl]; omega
  refine hst (fun _ kt => XS.icmpYes X0.here hx rfl (pc0 := 2) (pc' := 19) rfl (hb hby dcb_2) rfl (flt hc2).2.1 (by decide) (by decide) kt) ?_
  show G (s₁.setTop (mkF mI 19 #[.val (.int n)] []))
  exact hend (own_goVoid X0 hx Bd.returns (hb hby dcb_19) Bd.notSynchronized (by rw [e0]; exact ⟨rfl, N0, rfl⟩) (by decide) (by decide))
theorem dod_0 : decode jdk_37_method_2_code 0 = .ok (.aload_n 0, 1) := by decide +kernel
theorem dod_1 : decode jdk_37_method_2_code 1 = .ok (.getfield 7, 3) := by decide +kernel
theorem dod_4 : decode jdk_37_method_2_code 4 = .ok (.ireturn, 1) := by decide +kernel
theorem ef_od (mI : MethodId) (a : Addr) : entryFrame mI #[(.ref a)] 1 = mkF mI 0 #[.val (.ref a)] [] := by first | (simp [entryFrame, mkF, argsToLocals, Value.category]; done) | rfl
theorem pn_od : plainName "java/lang/Enum" = true := by first | decide +kernel | (simp [plainName, overriddenIn]; done)
set_option maxRecDepth 65536 in
set_option maxHeartbeats 40000000 in
theorem rmod (lL : Launch) (Z : State) (a0 : Array Value) (hw : ∀ d ∈ tables_1, d.before a0 Z = true) (ws : List Jvm.Cond) (a : Addr) (z : Int32) (h0 : Heap) (n0 : Nat) (Z0 : n0 ≤ h0.size) (F_o_a : Fld Z h0 a "java/lang/Enum" "ordinal" "I" (.int z)) :
    MetFree lL (⟨"java/lang/Enum", "ordinal", "()I"⟩ : MethodName) (head1 (Jvm.Cond.code (⟨"java/lang/Enum", "ordinal", "()I"⟩ : MethodName) jdk_37_method_2_code 1 (some .int) :: ws) ({ frames := 0, cells := 0, slots := 0, locals := 0 } : Room)) (fun a_ U_ => a_ = #[(.ref a)] ∧ Z.Warmed39 U_.vm ∧ U_.heap = h0) (fun _ _ _ _ _ => True) (fun _ U_ o_ W_ => ∃ v_ L_, o_ = .returned v_ ∧ own_QI z h0 n0 v_ W_.heap L_ ∧ FrameEnd U_ o_ W_ L_ ({ frames := 0, cells := 0, slots := 0, locals := 0 } : Room).cells ({ frames := 0, cells := 0, slots := 0, locals := 0 } : Room).slots) := by
  refine MetFree.of_bodySF (plainFor_of_name pn_od) hisR ?_
  intro pP eE sS mI args below meth cC s₁ Bd hml0 hP hK
  obtain ⟨rfl, hZ, hh⟩ := hP
  have hx := Bd.exec
  have hby := Bd.bytes
  have hml : cC.maxLocals = 1 := hml0
  have hown : sS.vm.findClass "java/lang/Enum" = some mI.cls := by have z := findClass_of_methodNamed Bd.named; exact z
  have hnm := (name_of_methodNamed Bd.named Bd.method).1
  have X0 : Stand pP lL eE ({ frames := 0, cells := 0, slots := 0, locals := 0 } : Room) sS mI #[(.ref a)] below meth cC s₁ [] 0 0 := Stand.of_body Bd
  have e0 : s₁.heap = h0 := by rw [← hh, Bd.state]; rfl
  have N0 := Fr.nil n0
  obtain ⟨G, hG, hst, hend⟩ := own_abs pP eE below sS (own_QI z h0 n0) ({ frames := 0, cells := 0, slots := 0, locals := 0 } : Room).cells ({ frames := 0, cells := 0, slots := 0, locals := 0 } : Room).slots
  refine hG (S := s₁.setTop (entryFrame mI #[(.ref a)] 1)) (hst (fun t_ kt_ => castTop (ef_od mI a) kt_) ?_)
  show G (s₁.setTop (mkF mI 0 #[.val (.ref a)] []))
  refine o_aloadN hst X0.here hx (hb hby dod_0) (pc' := 1) rfl rfl rfl ?_
  obtain ⟨T_1, X_1, e_1, st_1⟩ := getF X0 hx hZ hown (host := "") (Or.inl (own_w19 hw)) Via.refl e0 F_o_a (g := (mkF mI 1 #[.val (.ref a)] [(.ref a)])) rfl rfl (hb hby dod_1)
  refine hst st_1 ?_
  show G (T_1.setTop (mkF mI 4 #[.val (.ref a)] [(.int z)]))
  exact hend (own_goRet X_1 hx Bd.returns rfl (Or.inl ⟨rfl, by simp, _, rfl⟩) (hb hby dod_4) Bd.notSynchronized (by rw [e_1]; exact ⟨rfl, N0, rfl⟩) (by decide) (by decide))
theorem db0_0 : decode prog_19_method_6_code 0 = .ok (.iload_n 3, 1) := by decide +kernel
theorem db0_1 : decode prog_19_method_6_code 1 = .ok (.invokestatic 68, 3) := by decide +kernel
theorem db0_4 : decode prog_19_method_6_code 4 = .ok (.aload_n 0, 1) := by decide +kernel
theorem db0_5 : decode prog_19_method_6_code 5 = .ok (.invokevirtual 72, 3) := by decide +kernel
theorem db0_8 : decode prog_19_method_6_code 8 = .ok (.tableswitch 28 0 2 #[38, 48, 56], 28) := by decide +kernel
theorem db0_46 : decode prog_19_method_6_code 46 = .ok (.lload_n 1, 1) := by decide +kernel
theorem db0_47 : decode prog_19_method_6_code 47 = .ok (.iload_n 3, 1) := by decide +kernel
theorem db0_48 : decode prog_19_method_6_code 48 = .ok (.i2l, 1) := by decide +kernel
theorem db0_49 : decode prog_19_method_6_code 49 = .ok (.lrem, 1) := by decide +kernel
theorem db0_50 : decode prog_19_method_6_code 50 = .ok (.invokestatic 81, 3) := by decide +kernel
theorem db0_53 : decode prog_19_method_6_code 53 = .ok (.goto 16, 3) := by decide +kernel
theorem db0_69 : decode prog_19_method_6_code 69 = .ok (.lstore 4, 2) := by decide +kernel
theorem db0_71 : decode prog_19_method_6_code 71 = .ok (.lload 4, 2) := by decide +kernel
theorem db0_73 : decode prog_19_method_6_code 73 = .ok (.l2i, 1) := by decide +kernel
theorem db0_74 : decode prog_19_method_6_code 74 = .ok (.ireturn, 1) := by decide +kernel
theorem ef_b0 (mI : MethodId) (a : Addr) (v : Int64) (n : Int32) : entryFrame mI #[(.ref a), (.long v), (.int n)] 6 = mkF mI 0 #[.val (.ref a), .val (.long v), .second, .val (.int n), .unset, .unset] [] := by first | (simp [entryFrame, mkF, argsToLocals, Value.category]; done) | rfl
theorem pn_b0 : plainName own_BF = true := by first | decide +kernel | (simp [plainName, overriddenIn]; done)
set_option maxRecDepth 65536 in
set_option maxHeartbeats 40000000 in
theorem rmb0 (lL : Launch) (Z : State) (a0 : Array Value) (hw : ∀ d ∈ tables_1, d.before a0 Z = true) (ws : List Jvm.Cond) (a : Addr) (v : Int64) (n : Int32) (h0 : Heap) (n0 : Nat) (Z0 : n0 ≤ h0.size) (E_a : Exa Z h0 a own_BF) (F_o_a : Fld Z h0 a "java/lang/Enum" "ordinal" "I" (.int (0 : Int32))) (hn1 : 1 ≤ n.toInt) :
    MetFree lL (⟨own_BF, "bucketOf", "(JI)I"⟩ : MethodName) (head1 (Jvm.Cond.code (⟨own_BF, "bucketOf", "(JI)I"⟩ : MethodName) prog_19_method_6_code 6 (some .int) :: ws) ({ frames := 3, cells := 0, slots := 0, locals := 48 } : Room)) (fun a_ U_ => a_ = #[(.ref a), (.long v), (.int n)] ∧ Z.Warmed39 U_.vm ∧ U_.heap = h0) (fun _ _ _ _ _ => True) (fun _ U_ o_ W_ => ∃ v_ L_, o_ = .returned v_ ∧ own_QI (own_md v n).toInt32 h0 n0 v_ W_.heap L_ ∧ FrameEnd U_ o_ W_ L_ ({ frames := 3, cells := 0, slots := 0, locals := 48 } : Room).cells ({ frames := 3, cells := 0, slots := 0, locals := 48 } : Room).slots) := by
  refine MetFree.of_bodySF (plainFor_of_name pn_b0) hisR ?_
  intro pP eE sS mI args below meth cC s₁ Bd hml0 hP hK
  obtain ⟨rfl, hZ, hh⟩ := hP
  have hx := Bd.exec
  have hby := Bd.bytes
  have hml : cC.maxLocals = 6 := hml0
  have hown : sS.vm.findClass own_BF = some mI.cls := by have z := findClass_of_methodNamed Bd.named; exact z
  have hnm := (name_of_methodNamed Bd.named Bd.method).1
  have X0 : Stand pP lL eE ({ frames := 3, cells := 0, slots := 0, locals := 48 } : Room) sS mI #[(.ref a), (.long v), (.int n)] below meth cC s₁ [] 0 0 := Stand.of_body Bd
  have e0 : s₁.heap = h0 := by rw [← hh, Bd.state]; rfl
  have N0 := Fr.nil n0
  obtain ⟨G, hG, hst, hend⟩ := own_abs pP eE below sS (own_QI (own_md v n).toInt32 h0 n0) ({ frames := 3, cells := 0, slots := 0, locals := 48 } : Room).cells ({ frames := 3, cells := 0, slots := 0, locals := 48 } : Room).slots
  refine hG (S := s₁.setTop (entryFrame mI #[(.ref a), (.long v), (.int n)] 6)) (hst (fun t_ kt_ => castTop (ef_b0 mI a v n) kt_) ?_)
  show G (s₁.setTop (mkF mI 0 #[.val (.ref a), .val (.long v), .second, .val (.int n), .unset, .unset] []))
  refine o_iloadN hst X0.here hx (hb hby db0_0) (pc' := 1) rfl rfl ?_
  obtain ⟨_, _, ⟨T_1, L_1, k_1, n_1⟩, -, X_1, ⟨Lc_1, hQ_1, l_1, y_1, z_1⟩, st_1⟩ := Jvm.LawKit.callS X0 hx (y := (⟨own_BF, "checkBucketCount", "(I)V"⟩ : MethodName)) hown (mvT hZ (own_w9 hw)) (mvT hZ (own_w10 hw)) (mvT hZ (own_w2 hw)) (mvT hZ (own_w11 hw)) (by decide) (backOf (W := 0) (rmcb lL Z a0 hw [] n  h0 n0 Z0 hn1) hZ (own_w11 hw) (own_w2 hw) (by decide) (by decide)) (g := (mkF mI 1 #[.val (.ref a), .val (.long v), .second, .val (.int n), .unset, .unset] [(.int n)])) rfl (by rw [hml]; rfl) (argsL := [(.int n)]) (rest := []) (lenOf pd_2 rfl) rfl (by show 2 * 0 + _ ≤ _; exact Nat.le_of_eq rfl) (hb hby db0_1) (fun _ _ => ⟨rfl, e0, (by decide : 0 + 0 ≤ _), (by decide : 0 + 0 ≤ _)⟩)
  dsimp only [Pt.U, Pt.locs, Pt.cells, Pt.slots] at X_1 l_1 y_1 z_1 st_1 hQ_1
  subst l_1 y_1 z_1
  obtain ⟨rfl, N_1q, eh_1⟩ := hQ_1
  have N_1 := Fr.app N0 N_1q
  refine hst (fun _ kt => st_1 _ kt) ?_
  show G (T_1.setTop (mkF mI 4 #[.val (.ref a), .val (.long v), .second, .val (.int n), .unset, .unset] []))
  refine o_aloadN hst X_1.here hx (hb hby db0_4) (pc' := 5) rfl rfl rfl ?_
  obtain ⟨cq_2, kq_2, q_2a, q_2b, q_2c⟩ := isOf hZ eh_1 E_a
  obtain ⟨_, _, ⟨T_2, L_2, k_2, n_2⟩, -, X_2, ⟨Lc_2, hQ_2, l_2, y_2, z_2⟩, st_2⟩ := X_1.virtualBackUp hx (x := (⟨own_BF, "ordinal", "()I"⟩ : MethodName)) (y := (⟨"java/lang/Enum", "ordinal", "()I"⟩ : MethodName)) (owner := "java/lang/Enum") hown (mvT hZ (own_w12 hw)) (mvT hZ (own_w13 hw)) (mvT hZ (own_w14 hw)) (by decide) (mvT hZ (own_w16 hw)) (mvT hZ (own_w15 hw)) (backOf (W := 0) (rmod lL Z a0 hw [] a (0 : Int32) h0 n0 Z0 F_o_a) hZ (own_w18 hw) (own_w17 hw) (by decide) (by decide)) q_2a q_2c (g := (mkF mI 5 #[.val (.ref a), .val (.long v), .second, .val (.int n), .unset, .unset] [(.ref a)])) rfl (by rw [hml]; rfl) (Steps.refl _) (argsL := []) (rest := []) (lenOf pd_3 rfl) rfl (by show 2 * 0 + _ ≤ _; exact Nat.le_of_eq rfl) (hb hby db0_5) (fun _ _ => ⟨rfl, eh_1, (by decide : 0 + 0 ≤ _), (by decide : 0 + 0 ≤ _)⟩)
  dsimp only [Pt.U, Pt.locs, Pt.cells, Pt.slots] at X_2 l_2 y_2 z_2 st_2 hQ_2
  subst l_2 y_2 z_2
  obtain ⟨rfl, N_2q, eh_2⟩ := hQ_2
  have N_2 := Fr.app N_1 N_2q
  refine hst (fun _ kt => st_2.trans kt) ?_
  show G (T_2.setTop (mkF mI 8 #[.val (.ref a), .val (.long v), .second, .val (.int n), .unset, .unset] [(.int (0 : Int32))]))
  refine hst (fun _ kt => XS.tswIn X_2.here hx rfl (pc0 := 8) (pc' := 46) rfl (hb hby db0_8) rfl (by decide) (o := 38) rfl (by decide) (by decide) kt) ?_
  show G (T_2.setTop (mkF mI 46 #[.val (.ref a), .val (.long v), .second, .val (.int n), .unset, .unset] []))
  have hz : n.toInt64 ≠ 0 := fun z => by
    have q := own_nL n
    rw [z] at q
    have q0 : (0 : Int64).toInt = 0 := rfl
    omega
  refine o_lloadN hst X_2.here hx (hb hby db0_46) (pc' := 47) rfl rfl ?_
  refine o_iloadN hst X_2.here hx (hb hby db0_47) (pc' := 48) rfl rfl ?_
  refine o_i2l hst X_2.here hx (hb hby db0_48) (pc' := 49) rfl ?_
  refine hst (fun _ kt => XS.lrem X_2.here hx rfl (hb hby db0_49) rfl hz kt) ?_
  show G (T_2.setTop (mkF mI 50 #[.val (.ref a), .val (.long v), .second, .val (.int n), .unset, .unset] [(.long (v - (v / (n.toInt64)) * (n.toInt64)))]))
  show G (T_2.setTop (mkF mI 50 #[.val (.ref a), .val (.long v), .second, .val (.int n), .unset, .unset] [(.long (own_rm v n))]))
  obtain ⟨_, _, ⟨T_3, L_3, k_3, n_3⟩, -, X_3, ⟨Lc_3, hQ_3, l_3, y_3, z_3⟩, st_3⟩ := Jvm.LawKit.callS X_2 hx (y := (⟨"java/lang/Math", "abs", "(J)J"⟩ : MethodName)) hown (mvT hZ (own_w21 hw)) (mvT hZ (own_w22 hw)) (mvT hZ (own_w23 hw)) (mvT hZ (own_w24 hw)) (by decide) (backOf (W := 0) (rmab lL Z a0 hw [] (own_rm v n)  h0 n0 Z0) hZ (own_w24 hw) (own_w23 hw) (by decide) (by decide)) (g := (mkF mI 50 #[.val (.ref a), .val (.long v), .second, .val (.int n), .unset, .unset] [(.long (own_rm v n))])) rfl (by rw [hml]; rfl) (argsL := [(.long (own_rm v n))]) (rest := []) (lenOf pd_4 rfl) rfl (by show 2 * 0 + _ ≤ _; exact Nat.le_of_eq rfl) (hb hby db0_50) (fun _ _ => ⟨rfl, eh_2, (by decide : 0 + 0 ≤ _), (by decide : 0 + 0 ≤ _)⟩)
  dsimp only [Pt.U, Pt.locs, Pt.cells, Pt.slots] at X_3 l_3 y_3 z_3 st_3 hQ_3
  subst l_3 y_3 z_3
  obtain ⟨rfl, N_3q, eh_3⟩ := hQ_3
  have N_3 := Fr.app N_2 N_3q
  refine hst (fun _ kt => st_3 _ kt) ?_
  show G (T_3.setTop (mkF mI 53 #[.val (.ref a), .val (.long v), .second, .val (.int n), .unset, .unset] [(.long (own_ab (own_rm v n)))]))
  show G (T_3.setTop (mkF mI 53 #[.val (.ref a), .val (.long v), .second, .val (.int n), .unset, .unset] [(.long (own_md v n))]))
  refine o_goto hst X_3.here hx (hb hby db0_53) (by decide) (pc' := 69) (by decide) ?_
  refine o_lstore hst X_3.here hx (hb hby db0_69) (pc' := 71) rfl (Lt := #[.val (.ref a), .val (.long v), .second, .val (.int n), .val (.long (own_md v n)), .second]) rfl ?_
  refine o_lload hst X_3.here hx (hb hby db0_71) (pc' := 73) rfl rfl ?_
  refine o_l2i hst X_3.here hx (hb hby db0_73) (pc' := 74) rfl ?_
  exact hend (own_goRet X_3 hx Bd.returns rfl (Or.inl ⟨rfl, by simp, _, rfl⟩) (hb hby db0_74) Bd.notSynchronized (by rw [eh_3]; exact ⟨rfl, N_3, rfl⟩) (by decide) (by decide))
theorem db1_0 : decode prog_19_method_6_code 0 = .ok (.iload_n 3, 1) := by decide +kernel
theorem db1_1 : decode prog_19_method_6_code 1 = .ok (.invokestatic 68, 3) := by decide +kernel
theorem db1_4 : decode prog_19_method_6_code 4 = .ok (.aload_n 0, 1) := by decide +kernel
theorem db1_5 : decode prog_19_method_6_code 5 = .ok (.invokevirtual 72, 3) := by decide +kernel
theorem db1_8 : decode prog_19_method_6_code 8 = .ok (.tableswitch 28 0 2 #[38, 48, 56], 28) := by decide +kernel
theorem db1_56 : decode prog_19_method_6_code 56 = .ok (.lload_n 1, 1) := by decide +kernel
theorem db1_57 : decode prog_19_method_6_code 57 = .ok (.iload_n 3, 1) := by decide +kernel
theorem db1_58 : decode prog_19_method_6_code 58 = .ok (.invokestatic 87, 3) := by decide +kernel
theorem db1_61 : decode prog_19_method_6_code 61 = .ok (.goto 8, 3) := by decide +kernel
theorem db1_69 : decode prog_19_method_6_code 69 = .ok (.lstore 4, 2) := by decide +kernel
theorem db1_71 : decode prog_19_method_6_code 71 = .ok (.lload 4, 2) := by decide +kernel
theorem db1_73 : decode prog_19_method_6_code 73 = .ok (.l2i, 1) := by decide +kernel
theorem db1_74 : decode prog_19_method_6_code 74 = .ok (.ireturn, 1) := by decide +kernel
theorem ef_b1 (mI : MethodId) (a : Addr) (v : Int64) (n : Int32) : entryFrame mI #[(.ref a), (.long v), (.int n)] 6 = mkF mI 0 #[.val (.ref a), .val (.long v), .second, .val (.int n), .unset, .unset] [] := by first | (simp [entryFrame, mkF, argsToLocals, Value.category]; done) | rfl
theorem pn_b1 : plainName own_BF = true := by first | decide +kernel | (simp [plainName, overriddenIn]; done)
set_option maxRecDepth 65536 in
set_option maxHeartbeats 40000000 in
theorem rmb1 (lL : Launch) (Z : State) (a0 : Array Value) (hw : ∀ d ∈ tables_1, d.before a0 Z = true) (ws : List Jvm.Cond) (a : Addr) (v : Int64) (n : Int32) (h0 : Heap) (n0 : Nat) (Z0 : n0 ≤ h0.size) (E_a : Exa Z h0 a own_BF) (F_o_a : Fld Z h0 a "java/lang/Enum" "ordinal" "I" (.int (1 : Int32))) (hn1 : 1 ≤ n.toInt) :
    MetFree lL (⟨own_BF, "bucketOf", "(JI)I"⟩ : MethodName) (head1 (Jvm.Cond.code (⟨own_BF, "bucketOf", "(JI)I"⟩ : MethodName) prog_19_method_6_code 6 (some .int) :: ws) ({ frames := 3, cells := 0, slots := 0, locals := 48 } : Room)) (fun a_ U_ => a_ = #[(.ref a), (.long v), (.int n)] ∧ Z.Warmed39 U_.vm ∧ U_.heap = h0) (fun _ _ _ _ _ => True) (fun _ U_ o_ W_ => ∃ v_ L_, o_ = .returned v_ ∧ own_Qb1 v n h0 n0 v_ W_.heap L_ ∧ FrameEnd U_ o_ W_ L_ ({ frames := 3, cells := 0, slots := 0, locals := 48 } : Room).cells ({ frames := 3, cells := 0, slots := 0, locals := 48 } : Room).slots) := by
  refine MetFree.of_bodySF (plainFor_of_name pn_b1) hisR ?_
  intro pP eE sS mI args below meth cC s₁ Bd hml0 hP hK
  obtain ⟨rfl, hZ, hh⟩ := hP
  have hx := Bd.exec
  have hby := Bd.bytes
  have hml : cC.maxLocals = 6 := hml0
  have hown : sS.vm.findClass own_BF = some mI.cls := by have z := findClass_of_methodNamed Bd.named; exact z
  have hnm := (name_of_methodNamed Bd.named Bd.method).1
  have X0 : Stand pP lL eE ({ frames := 3, cells := 0, slots := 0, locals := 48 } : Room) sS mI #[(.ref a), (.long v), (.int n)] below meth cC s₁ [] 0 0 := Stand.of_body Bd
  have e0 : s₁.heap = h0 := by rw [← hh, Bd.state]; rfl
  have N0 := Fr.nil n0
  obtain ⟨G, hG, hst, hend⟩ := own_abs pP eE below sS (own_Qb1 v n h0 n0) ({ frames := 3, cells := 0, slots := 0, locals := 48 } : Room).cells ({ frames := 3, cells := 0, slots := 0, locals := 48 } : Room).slots
  refine hG (S := s₁.setTop (entryFrame mI #[(.ref a), (.long v), (.int n)] 6)) (hst (fun t_ kt_ => castTop (ef_b1 mI a v n) kt_) ?_)
  show G (s₁.setTop (mkF mI 0 #[.val (.ref a), .val (.long v), .second, .val (.int n), .unset, .unset] []))
  refine o_iloadN hst X0.here hx (hb hby db1_0) (pc' := 1) rfl rfl ?_
  obtain ⟨_, _, ⟨T_1, L_1, k_1, n_1⟩, -, X_1, ⟨Lc_1, hQ_1, l_1, y_1, z_1⟩, st_1⟩ := Jvm.LawKit.callS X0 hx (y := (⟨own_BF, "checkBucketCount", "(I)V"⟩ : MethodName)) hown (mvT hZ (own_w9 hw)) (mvT hZ (own_w10 hw)) (mvT hZ (own_w2 hw)) (mvT hZ (own_w11 hw)) (by decide) (backOf (W := 0) (rmcb lL Z a0 hw [] n  h0 n0 Z0 hn1) hZ (own_w11 hw) (own_w2 hw) (by decide) (by decide)) (g := (mkF mI 1 #[.val (.ref a), .val (.long v), .second, .val (.int n), .unset, .unset] [(.int n)])) rfl (by rw [hml]; rfl) (argsL := [(.int n)]) (rest := []) (lenOf pd_2 rfl) rfl (by show 2 * 0 + _ ≤ _; exact Nat.le_of_eq rfl) (hb hby db1_1) (fun _ _ => ⟨rfl, e0, (by decide : 0 + 0 ≤ _), (by decide : 0 + 0 ≤ _)⟩)
  dsimp only [Pt.U, Pt.locs, Pt.cells, Pt.slots] at X_1 l_1 y_1 z_1 st_1 hQ_1
  subst l_1 y_1 z_1
  obtain ⟨rfl, N_1q, eh_1⟩ := hQ_1
  have N_1 := Fr.app N0 N_1q
  refine hst (fun _ kt => st_1 _ kt) ?_
  show G (T_1.setTop (mkF mI 4 #[.val (.ref a), .val (.long v), .second, .val (.int n), .unset, .unset] []))
  refine o_aloadN hst X_1.here hx (hb hby db1_4) (pc' := 5) rfl rfl rfl ?_
  obtain ⟨cq_2, kq_2, q_2a, q_2b, q_2c⟩ := isOf hZ eh_1 E_a
  obtain ⟨_, _, ⟨T_2, L_2, k_2, n_2⟩, -, X_2, ⟨Lc_2, hQ_2, l_2, y_2, z_2⟩, st_2⟩ := X_1.virtualBackUp hx (x := (⟨own_BF, "ordinal", "()I"⟩ : MethodName)) (y := (⟨"java/lang/Enum", "ordinal", "()I"⟩ : MethodName)) (owner := "java/lang/Enum") hown (mvT hZ (own_w12 hw)) (mvT hZ (own_w13 hw)) (mvT hZ (own_w14 hw)) (by decide) (mvT hZ (own_w16 hw)) (mvT hZ (own_w15 hw)) (backOf (W := 0) (rmod lL Z a0 hw [] a (1 : Int32) h0 n0 Z0 F_o_a) hZ (own_w18 hw) (own_w17 hw) (by decide) (by decide)) q_2a q_2c (g := (mkF mI 5 #[.val (.ref a), .val (.long v), .second, .val (.int n), .unset, .unset] [(.ref a)])) rfl (by rw [hml]; rfl) (Steps.refl _) (argsL := []) (rest := []) (lenOf pd_3 rfl) rfl (by show 2 * 0 + _ ≤ _; exact Nat.le_of_eq rfl) (hb hby db1_5) (fun _ _ => ⟨rfl, eh_1, (by decide : 0 + 0 ≤ _), (by decide : 0 + 0 ≤ _)⟩)
  dsimp only [Pt.U, Pt.locs, Pt.cells, Pt.slots] at X_2 l_2 y_2 z_2 st_2 hQ_2
  subst l_2 y_2 z_2
  obtain ⟨rfl, N_2q, eh_2⟩ := hQ_2
  have N_2 := Fr.app N_1 N_2q
  refine hst (fun _ kt => st_2.trans kt) ?_
  show G (T_2.setTop (mkF mI 8 #[.val (.ref a), .val (.long v), .second, .val (.int n), .unset, .unset] [(.int (1 : Int32))]))
  refine hst (fun _ kt => XS.tswIn X_2.here hx rfl (pc0 := 8) (pc' := 56) rfl (hb hby db1_8) rfl (by decide) (o := 48) rfl (by decide) (by decide) kt) ?_
  show G (T_2.setTop (mkF mI 56 #[.val (.ref a), .val (.long v), .second, .val (.int n), .unset, .unset] []))
  refine o_lloadN hst X_2.here hx (hb hby db1_56) (pc' := 57) rfl rfl ?_
  refine o_iloadN hst X_2.here hx (hb hby db1_57) (pc' := 58) rfl rfl ?_
  obtain ⟨_, _, ⟨T_3, L_3, k_3, n_3⟩, -, X_3, ⟨Lc_3, hQ_3, l_3, y_3, z_3⟩, st_3⟩ := Jvm.LawKit.callS X_2 hx (y := (⟨own_BF, "linear", "(JI)J"⟩ : MethodName)) hown (mvT hZ (own_w35 hw)) (mvT hZ (own_w36 hw)) (mvT hZ (own_w2 hw)) (mvT hZ (own_w37 hw)) (by decide) (backOf (W := 0) (rmln lL Z a0 hw [] v n  h0 n0 Z0 hn1) hZ (own_w37 hw) (own_w2 hw) (by decide) (by decide)) (g := (mkF mI 58 #[.val (.ref a), .val (.long v), .second, .val (.int n), .unset, .unset] [(.int n), (.long v)])) rfl (by rw [hml]; rfl) (argsL := [(.long v), (.int n)]) (rest := []) (lenOf pd_5 rfl) rfl (by show 2 * 0 + _ ≤ _; exact Nat.le_of_eq rfl) (hb hby db1_58) (fun _ _ => ⟨rfl, eh_2, (by decide : 0 + 0 ≤ _), (by decide : 0 + 0 ≤ _)⟩)
  dsimp only [Pt.U, Pt.locs, Pt.cells, Pt.slots] at X_3 l_3 y_3 z_3 st_3 hQ_3
  subst l_3 y_3 z_3
  obtain ⟨mask, hM, rfl, N_3q, eh_3⟩ := hQ_3
  have N_3 := Fr.app N_2 N_3q
  refine hst (fun _ kt => st_3 _ kt) ?_
  show G (T_3.setTop (mkF mI 61 #[.val (.ref a), .val (.long v), .second, .val (.int n), .unset, .unset] [(.long (own_lin v n mask))]))
  refine o_goto hst X_3.here hx (hb hby db1_61) (by decide) (pc' := 69) (by decide) ?_
  refine o_lstore hst X_3.here hx (hb hby db1_69) (pc' := 71) rfl (Lt := #[.val (.ref a), .val (.long v), .second, .val (.int n), .val (.long (own_lin v n mask)), .second]) rfl ?_
  refine o_lload hst X_3.here hx (hb hby db1_71) (pc' := 73) rfl rfl ?_
  refine o_l2i hst X_3.here hx (hb hby db1_73) (pc' := 74) rfl ?_
  exact hend (own_goRet X_3 hx Bd.returns rfl (Or.inl ⟨rfl, by simp, _, rfl⟩) (hb hby db1_74) Bd.notSynchronized (by rw [eh_3]; exact ⟨mask, hM, rfl, N_3, rfl⟩) (by decide) (by decide))
theorem db2_0 : decode prog_19_method_6_code 0 = .ok (.iload_n 3, 1) := by decide +kernel
theorem db2_1 : decode prog_19_method_6_code 1 = .ok (.invokestatic 68, 3) := by decide +kernel
theorem db2_4 : decode prog_19_method_6_code 4 = .ok (.aload_n 0, 1) := by decide +kernel
theorem db2_5 : decode prog_19_method_6_code 5 = .ok (.invokevirtual 72, 3) := by decide +kernel
theorem db2_8 : decode prog_19_method_6_code 8 = .ok (.tableswitch 28 0 2 #[38, 48, 56], 28) := by decide +kernel
theorem db2_64 : decode prog_19_method_6_code 64 = .ok (.lload_n 1, 1) := by decide +kernel
theorem db2_65 : decode prog_19_method_6_code 65 = .ok (.iload_n 3, 1) := by decide +kernel
theorem db2_66 : decode prog_19_method_6_code 66 = .ok (.invokestatic 91, 3) := by decide +kernel
theorem db2_69 : decode prog_19_method_6_code 69 = .ok (.lstore 4, 2) := by decide +kernel
theorem db2_71 : decode prog_19_method_6_code 71 = .ok (.lload 4, 2) := by decide +kernel
theorem db2_73 : decode prog_19_method_6_code 73 = .ok (.l2i, 1) := by decide +kernel
theorem db2_74 : decode prog_19_method_6_code 74 = .ok (.ireturn, 1) := by decide +kernel
theorem ef_b2 (mI : MethodId) (a : Addr) (v : Int64) (n : Int32) : entryFrame mI #[(.ref a), (.long v), (.int n)] 6 = mkF mI 0 #[.val (.ref a), .val (.long v), .second, .val (.int n), .unset, .unset] [] := by first | (simp [entryFrame, mkF, argsToLocals, Value.category]; done) | rfl
theorem pn_b2 : plainName own_BF = true := by first | decide +kernel | (simp [plainName, overriddenIn]; done)
set_option maxRecDepth 65536 in
set_option maxHeartbeats 40000000 in
theorem rmb2 (lL : Launch) (Z : State) (a0 : Array Value) (hw : ∀ d ∈ tables_1, d.before a0 Z = true) (ws : List Jvm.Cond) (a : Addr) (v : Int64) (n : Int32) (f0 : Nat) (h0 : Heap) (n0 : Nat) (Z0 : n0 ≤ h0.size) (E_a : Exa Z h0 a own_BF) (F_o_a : Fld Z h0 a "java/lang/Enum" "ordinal" "I" (.int (2 : Int32))) (hn1 : 1 ≤ n.toInt) (hn2 : n.toInt ≤ 2147483647) (hf : n.toInt ≤ f0) :
    MetFree lL (⟨own_BF, "bucketOf", "(JI)I"⟩ : MethodName) (head1 (Jvm.Cond.code (⟨own_BF, "bucketOf", "(JI)I"⟩ : MethodName) prog_19_method_6_code 6 (some .int) :: ws) ({ frames := 3, cells := 0, slots := 0, locals := 48 } : Room)) (fun a_ U_ => a_ = #[(.ref a), (.long v), (.int n)] ∧ Z.Warmed39 U_.vm ∧ U_.heap = h0) (fun _ _ _ _ _ => True) (fun _ U_ o_ W_ => ∃ v_ L_, o_ = .returned v_ ∧ own_QI (own_run f0 v (-1 : Int64) (0 : Int64) n.toInt64).toInt32 h0 n0 v_ W_.heap L_ ∧ FrameEnd U_ o_ W_ L_ ({ frames := 3, cells := 0, slots := 0, locals := 48 } : Room).cells ({ frames := 3, cells := 0, slots := 0, locals := 48 } : Room).slots) := by
  refine MetFree.of_bodySF (plainFor_of_name pn_b2) hisR ?_
  intro pP eE sS mI args below meth cC s₁ Bd hml0 hP hK
  obtain ⟨rfl, hZ, hh⟩ := hP
  have hx := Bd.exec
  have hby := Bd.bytes
  have hml : cC.maxLocals = 6 := hml0
  have hown : sS.vm.findClass own_BF = some mI.cls := by have z := findClass_of_methodNamed Bd.named; exact z
  have hnm := (name_of_methodNamed Bd.named Bd.method).1
  have X0 : Stand pP lL eE ({ frames := 3, cells := 0, slots := 0, locals := 48 } : Room) sS mI #[(.ref a), (.long v), (.int n)] below meth cC s₁ [] 0 0 := Stand.of_body Bd
  have e0 : s₁.heap = h0 := by rw [← hh, Bd.state]; rfl
  have N0 := Fr.nil n0
  obtain ⟨G, hG, hst, hend⟩ := own_abs pP eE below sS (own_QI (own_run f0 v (-1 : Int64) (0 : Int64) n.toInt64).toInt32 h0 n0) ({ frames := 3, cells := 0, slots := 0, locals := 48 } : Room).cells ({ frames := 3, cells := 0, slots := 0, locals := 48 } : Room).slots
  refine hG (S := s₁.setTop (entryFrame mI #[(.ref a), (.long v), (.int n)] 6)) (hst (fun t_ kt_ => castTop (ef_b2 mI a v n) kt_) ?_)
  show G (s₁.setTop (mkF mI 0 #[.val (.ref a), .val (.long v), .second, .val (.int n), .unset, .unset] []))
  refine o_iloadN hst X0.here hx (hb hby db2_0) (pc' := 1) rfl rfl ?_
  obtain ⟨_, _, ⟨T_1, L_1, k_1, n_1⟩, -, X_1, ⟨Lc_1, hQ_1, l_1, y_1, z_1⟩, st_1⟩ := Jvm.LawKit.callS X0 hx (y := (⟨own_BF, "checkBucketCount", "(I)V"⟩ : MethodName)) hown (mvT hZ (own_w9 hw)) (mvT hZ (own_w10 hw)) (mvT hZ (own_w2 hw)) (mvT hZ (own_w11 hw)) (by decide) (backOf (W := 0) (rmcb lL Z a0 hw [] n  h0 n0 Z0 hn1) hZ (own_w11 hw) (own_w2 hw) (by decide) (by decide)) (g := (mkF mI 1 #[.val (.ref a), .val (.long v), .second, .val (.int n), .unset, .unset] [(.int n)])) rfl (by rw [hml]; rfl) (argsL := [(.int n)]) (rest := []) (lenOf pd_2 rfl) rfl (by show 2 * 0 + _ ≤ _; exact Nat.le_of_eq rfl) (hb hby db2_1) (fun _ _ => ⟨rfl, e0, (by decide : 0 + 0 ≤ _), (by decide : 0 + 0 ≤ _)⟩)
  dsimp only [Pt.U, Pt.locs, Pt.cells, Pt.slots] at X_1 l_1 y_1 z_1 st_1 hQ_1
  subst l_1 y_1 z_1
  obtain ⟨rfl, N_1q, eh_1⟩ := hQ_1
  have N_1 := Fr.app N0 N_1q
  refine hst (fun _ kt => st_1 _ kt) ?_
  show G (T_1.setTop (mkF mI 4 #[.val (.ref a), .val (.long v), .second, .val (.int n), .unset, .unset] []))
  refine o_aloadN hst X_1.here hx (hb hby db2_4) (pc' := 5) rfl rfl rfl ?_
  obtain ⟨cq_2, kq_2, q_2a, q_2b, q_2c⟩ := isOf hZ eh_1 E_a
  obtain ⟨_, _, ⟨T_2, L_2, k_2, n_2⟩, -, X_2, ⟨Lc_2, hQ_2, l_2, y_2, z_2⟩, st_2⟩ := X_1.virtualBackUp hx (x := (⟨own_BF, "ordinal", "()I"⟩ : MethodName)) (y := (⟨"java/lang/Enum", "ordinal", "()I"⟩ : MethodName)) (owner := "java/lang/Enum") hown (mvT hZ (own_w12 hw)) (mvT hZ (own_w13 hw)) (mvT hZ (own_w14 hw)) (by decide) (mvT hZ (own_w16 hw)) (mvT hZ (own_w15 hw)) (backOf (W := 0) (rmod lL Z a0 hw [] a (2 : Int32) h0 n0 Z0 F_o_a) hZ (own_w18 hw) (own_w17 hw) (by decide) (by decide)) q_2a q_2c (g := (mkF mI 5 #[.val (.ref a), .val (.long v), .second, .val (.int n), .unset, .unset] [(.ref a)])) rfl (by rw [hml]; rfl) (Steps.refl _) (argsL := []) (rest := []) (lenOf pd_3 rfl) rfl (by show 2 * 0 + _ ≤ _; exact Nat.le_of_eq rfl) (hb hby db2_5) (fun _ _ => ⟨rfl, eh_1, (by decide : 0 + 0 ≤ _), (by decide : 0 + 0 ≤ _)⟩)
  dsimp only [Pt.U, Pt.locs, Pt.cells, Pt.slots] at X_2 l_2 y_2 z_2 st_2 hQ_2
  subst l_2 y_2 z_2
  obtain ⟨rfl, N_2q, eh_2⟩ := hQ_2
  have N_2 := Fr.app N_1 N_2q
  refine hst (fun _ kt => st_2.trans kt) ?_
  show G (T_2.setTop (mkF mI 8 #[.val (.ref a), .val (.long v), .second, .val (.int n), .unset, .unset] [(.int (2 : Int32))]))
  refine hst (fun _ kt => XS.tswIn X_2.here hx rfl (pc0 := 8) (pc' := 64) rfl (hb hby db2_8) rfl (by decide) (o := 56) rfl (by decide) (by decide) kt) ?_
  show G (T_2.setTop (mkF mI 64 #[.val (.ref a), .val (.long v), .second, .val (.int n), .unset, .unset] []))
  refine o_lloadN hst X_2.here hx (hb hby db2_64) (pc' := 65) rfl rfl ?_
  refine o_iloadN hst X_2.here hx (hb hby db2_65) (pc' := 66) rfl rfl ?_
  obtain ⟨_, _, ⟨T_3, L_3, k_3, n_3⟩, -, X_3, ⟨Lc_3, hQ_3, l_3, y_3, z_3⟩, st_3⟩ := Jvm.LawKit.callS X_2 hx (y := (⟨own_BF, "jump", "(JI)J"⟩ : MethodName)) hown (mvT hZ (own_w27 hw)) (mvT hZ (own_w28 hw)) (mvT hZ (own_w2 hw)) (mvT hZ (own_w29 hw)) (by decide) (backOf (W := 0) (rmjp lL Z a0 hw [] v n f0 h0 n0 Z0 hn1 hn2 hf) hZ (own_w29 hw) (own_w2 hw) (by decide) (by decide)) (g := (mkF mI 66 #[.val (.ref a), .val (.long v), .second, .val (.int n), .unset, .unset] [(.int n), (.long v)])) rfl (by rw [hml]; rfl) (argsL := [(.long v), (.int n)]) (rest := []) (lenOf pd_5 rfl) rfl (by show 2 * 0 + _ ≤ _; exact Nat.le_of_eq rfl) (hb hby db2_66) (fun _ _ => ⟨rfl, eh_2, (by decide : 0 + 0 ≤ _), (by decide : 0 + 0 ≤ _)⟩)
  dsimp only [Pt.U, Pt.locs, Pt.cells, Pt.slots] at X_3 l_3 y_3 z_3 st_3 hQ_3
  subst l_3 y_3 z_3
  obtain ⟨rfl, N_3q, eh_3⟩ := hQ_3
  have N_3 := Fr.app N_2 N_3q
  refine hst (fun _ kt => st_3 _ kt) ?_
  show G (T_3.setTop (mkF mI 69 #[.val (.ref a), .val (.long v), .second, .val (.int n), .unset, .unset] [(.long (own_run f0 v (-1 : Int64) (0 : Int64) n.toInt64))]))
  refine o_lstore hst X_3.here hx (hb hby db2_69) (pc' := 71) rfl (Lt := #[.val (.ref a), .val (.long v), .second, .val (.int n), .val (.long (own_run f0 v (-1 : Int64) (0 : Int64) n.toInt64)), .second]) rfl ?_
  refine o_lload hst X_3.here hx (hb hby db2_71) (pc' := 73) rfl rfl ?_
  refine o_l2i hst X_3.here hx (hb hby db2_73) (pc' := 74) rfl ?_
  exact hend (own_goRet X_3 hx Bd.returns rfl (Or.inl ⟨rfl, by simp, _, rfl⟩) (hb hby db2_74) Bd.notSynchronized (by rw [eh_3]; exact ⟨rfl, N_3, rfl⟩) (by decide) (by decide))
theorem ef_0 (mI : MethodId) (sel : Int32) (v : Int64) (mm : Int32) : entryFrame mI #[(.int sel), (.long v), (.int mm)] maxLocals = mkF mI 0 #[.val (.int sel), .val (.long v), .second, .val (.int mm), .unset, .unset, .unset, .unset, .unset, .unset, .unset, .unset, .unset] [] := by first | (simp [entryFrame, mkF, argsToLocals, Value.category, maxLocals]; done) | rfl
theorem pn_0 : plainName x.cls = true := by first | decide +kernel | (simp [plainName, overriddenIn]; done)
set_option maxRecDepth 65536 in
set_option maxHeartbeats 40000000 in
theorem rm0 (lL : Launch) (Z : State) (a0 : Array Value) (hw : ∀ d ∈ tables_1, d.before a0 Z = true) (ws : List Jvm.Cond) (sel : Int32) (v : Int64) (mm : Int32) (a0_ : Addr) (a1_ : Addr) (a2_ : Addr) (h0 : Heap) (n0 : Nat) (Z0 : n0 ≤ h0.size) (S_a0_ : Sta Z h0 own_BF "MOD" own_dBF (.ref a0_)) (E_a0_ : Exa Z h0 a0_ own_BF) (F_o_a0_ : Fld Z h0 a0_ "java/lang/Enum" "ordinal" "I" (.int (0 : Int32))) (S_a1_ : Sta Z h0 own_BF "LINEAR" own_dBF (.ref a1_)) (E_a1_ : Exa Z h0 a1_ own_BF) (F_o_a1_ : Fld Z h0 a1_ "java/lang/Enum" "ordinal" "I" (.int (1 : Int32))) (S_a2_ : Sta Z h0 own_BF "JUMP" own_dBF (.ref a2_)) (E_a2_ : Exa Z h0 a2_ own_BF) (F_o_a2_ : Fld Z h0 a2_ "java/lang/Enum" "ordinal" "I" (.int (2 : Int32))) :
    MetFree lL x (head1 (Jvm.Cond.code x code maxLocals ret :: ws) room_1) (fun a_ U_ => a_ = #[(.int sel), (.long v), (.int mm)] ∧ Z.Warmed39 U_.vm ∧ U_.heap = h0) (fun _ _ _ _ _ => True) (fun _ U_ o_ W_ => ∃ v_ L_, o_ = .returned v_ ∧ own_Q0 n0 v_ W_.heap L_ ∧ FrameEnd U_ o_ W_ L_ room_1.cells room_1.slots) := by
  refine MetFree.of_bodySF (plainFor_of_name pn_0) hisR ?_
  intro pP eE sS mI args below meth cC s₁ Bd hml0 hP hK
  obtain ⟨rfl, hZ, hh⟩ := hP
  have hx := Bd.exec
  have hby := Bd.bytes
  have hml : cC.maxLocals = 13 := hml0
  have hown : sS.vm.findClass x.cls = some mI.cls := by have z := findClass_of_methodNamed Bd.named; exact z
  have hnm := (name_of_methodNamed Bd.named Bd.method).1
  have X0 : Stand pP lL eE room_1 sS mI #[(.int sel), (.long v), (.int mm)] below meth cC s₁ [] 0 0 := Stand.of_body Bd
  have e0 : s₁.heap = h0 := by rw [← hh, Bd.state]; rfl
  have N0 := Fr.nil n0
  obtain ⟨G, hG, hst, hend⟩ := own_abs pP eE below sS (own_Q0 n0) room_1.cells room_1.slots
  refine hG (S := s₁.setTop (entryFrame mI #[(.int sel), (.long v), (.int mm)] maxLocals)) (hst (fun t_ kt_ => castTop (ef_0 mI sel v mm) kt_) ?_)
  obtain ⟨f0, hf0⟩ : ∃ f0 : Nat, f0 = 2147483648 := ⟨_, rfl⟩
  show G (s₁.setTop (mkF mI 0 #[.val (.int sel), .val (.long v), .second, .val (.int mm), .unset, .unset, .unset, .unset, .unset, .unset, .unset, .unset, .unset] []))
  refine o_iconst hst X0.here hx (hb hby at_0) (pc' := 1) rfl (z := (1 : Int32)) rfl ?_
  refine o_iloadN hst X0.here hx (hb hby at_1) (pc' := 2) rfl rfl ?_
  refine hst (X0.ldcInt hx hown (mvT hZ (own_w0 hw)) (g := (mkF mI 2 #[.val (.int sel), .val (.long v), .second, .val (.int mm), .unset, .unset, .unset, .unset, .unset, .unset, .unset, .unset, .unset] [(.int mm), (.int (1 : Int32))])) rfl (hb hby at_2)) ?_
  show G (s₁.setTop (mkF mI 4 #[.val (.int sel), .val (.long v), .second, .val (.int mm), .unset, .unset, .unset, .unset, .unset, .unset, .unset, .unset, .unset] [(.int (2147483647 : Int32)), (.int mm), (.int (1 : Int32))]))
  refine o_iand hst X0.here hx (hb hby at_4) (pc' := 5) rfl ?_
  refine hst (X0.ldcInt hx hown (mvT hZ (own_w0 hw)) (g := (mkF mI 5 #[.val (.int sel), .val (.long v), .second, .val (.int mm), .unset, .unset, .unset, .unset, .unset, .unset, .unset, .unset, .unset] [(.int (mm &&& (2147483647 : Int32))), (.int (1 : Int32))])) rfl (hb hby at_5)) ?_
  show G (s₁.setTop (mkF mI 7 #[.val (.int sel), .val (.long v), .second, .val (.int mm), .unset, .unset, .unset, .unset, .unset, .unset, .unset, .unset, .unset] [(.int (2147483647 : Int32)), (.int (mm &&& (2147483647 : Int32))), (.int (1 : Int32))]))
  refine hst (fun _ kt => iremM X0 hx rfl (hb hby at_7) rfl (by decide) kt) ?_
  show G (s₁.setTop (mkF mI 8 #[.val (.int sel), .val (.long v), .second, .val (.int mm), .unset, .unset, .unset, .unset, .unset, .unset, .unset, .unset, .unset] [(.int ((mm &&& (2147483647 : Int32)) % (2147483647 : Int32))), (.int (1 : Int32))]))
  refine o_iadd hst X0.here hx (hb hby at_8) (pc' := 9) rfl ?_
  have hnb := own_n0 mm
  generalize ((1 : Int32) + ((mm &&& (2147483647 : Int32)) % (2147483647 : Int32))) = n at hnb ⊢
  show G (s₁.setTop (mkF mI 9 #[.val (.int sel), .val (.long v), .second, .val (.int mm), .unset, .unset, .unset, .unset, .unset, .unset, .unset, .unset, .unset] [(.int n)]))
  obtain ⟨hn1, hn2⟩ := hnb
  refine o_istore hst X0.here hx (hb hby at_9) (pc' := 11) rfl (Lt := #[.val (.int sel), .val (.long v), .second, .val (.int mm), .val (.int n), .unset, .unset, .unset, .unset, .unset, .unset, .unset, .unset]) rfl ?_
  refine o_iloadN hst X0.here hx (hb hby at_11) (pc' := 12) rfl rfl ?_
  refine o_iconst hst X0.here hx (hb hby at_12) (pc' := 13) rfl (z := (3 : Int32)) rfl ?_
  refine o_iand hst X0.here hx (hb hby at_13) (pc' := 14) rfl ?_
  refine o_iconst hst X0.here hx (hb hby at_14) (pc' := 15) rfl (z := (3 : Int32)) rfl ?_
  refine hst (fun _ kt => iremM X0 hx rfl (hb hby at_15) rfl (by decide) kt) ?_
  show G (s₁.setTop (mkF mI 16 #[.val (.int sel), .val (.long v), .second, .val (.int mm), .val (.int n), .unset, .unset, .unset, .unset, .unset, .unset, .unset, .unset] [(.int ((sel &&& (3 : Int32)) % (3 : Int32)))]))
  generalize ((sel &&& (3 : Int32)) % (3 : Int32)) = kk
  show G (s₁.setTop (mkF mI 16 #[.val (.int sel), .val (.long v), .second, .val (.int mm), .val (.int n), .unset, .unset, .unset, .unset, .unset, .unset, .unset, .unset] [(.int kk)]))
  refine o_istore hst X0.here hx (hb hby at_16) (pc' := 18) rfl (Lt := #[.val (.int sel), .val (.long v), .second, .val (.int mm), .val (.int n), .val (.int kk), .unset, .unset, .unset, .unset, .unset, .unset, .unset]) rfl ?_
  refine o_iload hst X0.here hx (hb hby at_18) (pc' := 20) rfl rfl ?_
  by_cases hk0 : kk = (0 : Int32)
  ·
    refine hst (fun _ kt => XS.ifNo X0.here hx rfl (hb hby at_20) rfl ((if0 _ _).trans (teq hk0).2) kt) ?_
    show G (s₁.setTop (mkF mI 23 #[.val (.int sel), .val (.long v), .second, .val (.int mm), .val (.int n), .val (.int kk), .unset, .unset, .unset, .unset, .unset, .unset, .unset] []))
    obtain ⟨T_1, X_1, e_1, st_1⟩ := getS2 X0 hx hZ hown (host := "") (Or.inl (own_w1 hw)) Via.refl e0 S_a0_ (g := (mkF mI 23 #[.val (.int sel), .val (.long v), .second, .val (.int mm), .val (.int n), .val (.int kk), .unset, .unset, .unset, .unset, .unset, .unset, .unset] [])) rfl (hb hby at_23)
    refine hst st_1 ?_
    show G (T_1.setTop (mkF mI 26 #[.val (.int sel), .val (.long v), .second, .val (.int mm), .val (.int n), .val (.int kk), .unset, .unset, .unset, .unset, .unset, .unset, .unset] [(.ref a0_)]))
    refine o_lloadN hst X_1.here hx (hb hby at_26) (pc' := 27) rfl rfl ?_
    refine o_iload hst X_1.here hx (hb hby at_27) (pc' := 29) rfl rfl ?_
    obtain ⟨cq_2, kq_2, q_2a, q_2b, q_2c⟩ := isOf hZ e_1 E_a0_
    obtain ⟨_, _, ⟨T_2, L_2, k_2, n_2⟩, -, X_2, ⟨Lc_2, hQ_2, l_2, y_2, z_2⟩, st_2⟩ := X_1.virtualBack hx (y := (⟨own_BF, "bucketOf", "(JI)I"⟩ : MethodName)) (z := (⟨own_BF, "bucketOf", "(JI)I"⟩ : MethodName)) hown (mvT hZ (own_w4 hw)) (mvT hZ (own_w5 hw)) (notFace_of_selects (args := #[]) (mvT hZ (own_w7 hw))) (mvT hZ (own_w7 hw)) (mvT hZ (own_w6 hw)) (by decide) (backOf (W := 0) (rmb0 lL Z a0 hw [] a0_ v n  h0 n0 Z0 E_a0_ F_o_a0_ hn1) hZ (own_w8 hw) (own_w2 hw) (by decide) (by decide)) q_2a q_2c (g := (mkF mI 29 #[.val (.int sel), .val (.long v), .second, .val (.int mm), .val (.int n), .val (.int kk), .unset, .unset, .unset, .unset, .unset, .unset, .unset] [(.int n), (.long v), (.ref a0_)])) rfl (by rw [hml]; rfl) (Steps.refl _) (argsL := [(.long v), (.int n)]) (rest := []) (lenOf pd_6 rfl) rfl (by show 2 * 0 + _ ≤ _; exact Nat.le_of_eq rfl) (hb hby at_29) (fun _ _ => ⟨rfl, e_1, (by decide : 0 + 0 ≤ _), (by decide : 0 + 0 ≤ _)⟩)
    dsimp only [Pt.U, Pt.locs, Pt.cells, Pt.slots] at X_2 l_2 y_2 z_2 st_2 hQ_2
    subst l_2 y_2 z_2
    obtain ⟨rfl, N_2q, eh_2⟩ := hQ_2
    have N_2 := Fr.app N0 N_2q
    refine hst (fun _ kt => st_2.trans kt) ?_
    show G (T_2.setTop (mkF mI 32 #[.val (.int sel), .val (.long v), .second, .val (.int mm), .val (.int n), .val (.int kk), .unset, .unset, .unset, .unset, .unset, .unset, .unset] [(.int (own_md v n).toInt32)]))
    have hm := own_mod (v := v) hn1
    generalize (own_md v n).toInt32 = b at hm ⊢
    show G (T_2.setTop (mkF mI 32 #[.val (.int sel), .val (.long v), .second, .val (.int mm), .val (.int n), .val (.int kk), .unset, .unset, .unset, .unset, .unset, .unset, .unset] [(.int b)]))
    obtain ⟨hm1, hm2, hm3, hm4⟩ := hm
    refine o_istore hst X_2.here hx (hb hby at_32) (pc' := 34) rfl (Lt := #[.val (.int sel), .val (.long v), .second, .val (.int mm), .val (.int n), .val (.int kk), .val (.int b), .unset, .unset, .unset, .unset, .unset, .unset]) rfl ?_
    refine o_iload hst X_2.here hx (hb hby at_34) (pc' := 36) rfl rfl ?_
    have hb0 : ¬ (b < (0 : Int32)) := by rw [Int32.lt_iff_toInt_lt, show (0 : Int32).toInt = 0 from rfl]; omega
    refine hst (fun _ kt => XS.ifNo X_2.here hx rfl (hb hby at_36) rfl ((if0 _ _).trans (flt hb0).1) kt) ?_
    show G (T_2.setTop (mkF mI 39 #[.val (.int sel), .val (.long v), .second, .val (.int mm), .val (.int n), .val (.int kk), .val (.int b), .unset, .unset, .unset, .unset, .unset, .unset] []))
    refine o_iload hst X_2.here hx (hb hby at_39) (pc' := 41) rfl rfl ?_
    refine o_iload hst X_2.here hx (hb hby at_41) (pc' := 43) rfl rfl ?_
    have hb1 : b < n := by rw [Int32.lt_iff_toInt_lt]; omega
    refine hst (fun _ kt => XS.icmpYes X_2.here hx rfl (pc0 := 43) (pc' := 48) rfl (hb hby at_43) rfl (tlt hb1).1 (by decide) (by decide) kt) ?_
    show G (T_2.setTop (mkF mI 48 #[.val (.int sel), .val (.long v), .second, .val (.int mm), .val (.int n), .val (.int kk), .val (.int b), .unset, .unset, .unset, .unset, .unset, .unset] []))
    refine o_lloadN hst X_2.here hx (hb hby at_48) (pc' := 49) rfl rfl ?_
    refine o_lconst hst X_2.here hx (hb hby at_49) (pc' := 50) rfl (z := (0 : Int64)) rfl ?_
    refine o_lcmp hst X_2.here hx (hb hby at_50) (pc' := 51) rfl ?_
    have hz : n.toInt64 ≠ 0 := fun z => by
      have q := own_nL n
      rw [z] at q
      have q0 : (0 : Int64).toInt = 0 := rfl
      omega
    by_cases hv : v < (0 : Int64)
    ·
      refine hst (fun _ kt => XS.ifYes X_2.here hx rfl (pc0 := 51) (pc' := 62) rfl (hb hby at_51) rfl ((if0 _ _).trans (tlt ((lw_lt _ _).mpr hv)).1) (by decide) (by decide) kt) ?_
      show G (T_2.setTop (mkF mI 62 #[.val (.int sel), .val (.long v), .second, .val (.int mm), .val (.int n), .val (.int kk), .val (.int b), .unset, .unset, .unset, .unset, .unset, .unset] []))
      refine o_lloadN hst X_2.here hx (hb hby at_62) (pc' := 63) rfl rfl ?_
      refine o_iload hst X_2.here hx (hb hby at_63) (pc' := 65) rfl rfl ?_
      refine o_i2l hst X_2.here hx (hb hby at_65) (pc' := 66) rfl ?_
      refine o_ladd hst X_2.here hx (hb hby at_66) (pc' := 67) rfl ?_
      refine o_lstore hst X_2.here hx (hb hby at_67) (pc' := 69) rfl (Lt := #[.val (.int sel), .val (.long v), .second, .val (.int mm), .val (.int n), .val (.int kk), .val (.int b), .val (.long (v + (b.toInt64))), .second, .unset, .unset, .unset, .unset]) rfl ?_
      refine o_lload hst X_2.here hx (hb hby at_69) (pc' := 71) rfl rfl ?_
      refine o_iload hst X_2.here hx (hb hby at_71) (pc' := 73) rfl rfl ?_
      refine o_i2l hst X_2.here hx (hb hby at_73) (pc' := 74) rfl ?_
      refine hst (fun _ kt => XS.lrem X_2.here hx rfl (hb hby at_74) rfl hz kt) ?_
      show G (T_2.setTop (mkF mI 75 #[.val (.int sel), .val (.long v), .second, .val (.int mm), .val (.int n), .val (.int kk), .val (.int b), .val (.long (v + (b.toInt64))), .second, .unset, .unset, .unset, .unset] [(.long ((v + (b.toInt64)) - ((v + (b.toInt64)) / (n.toInt64)) * (n.toInt64)))]))
      refine o_lconst hst X_2.here hx (hb hby at_75) (pc' := 76) rfl (z := (0 : Int64)) rfl ?_
      refine o_lcmp hst X_2.here hx (hb hby at_76) (pc' := 77) rfl ?_
      have hr : ((v + (b.toInt64)) - ((v + (b.toInt64)) / (n.toInt64)) * (n.toInt64)) = (0 : Int64) := hm4 hv
      refine hst (fun _ kt => XS.ifNo X_2.here hx rfl (hb hby at_77) rfl ((if0 _ _).trans (teq ((lw_eq _ _).mpr hr)).2) kt) ?_
      show G (T_2.setTop (mkF mI 80 #[.val (.int sel), .val (.long v), .second, .val (.int mm), .val (.int n), .val (.int kk), .val (.int b), .val (.long (v + (b.toInt64))), .second, .unset, .unset, .unset, .unset] []))
      refine o_iconst hst X_2.here hx (hb hby at_80) (pc' := 81) rfl (z := (1 : Int32)) rfl ?_
      refine o_goto hst X_2.here hx (hb hby at_81) (by decide) (pc' := 85) (by decide) ?_
      exact hend (own_goRet X_2 hx Bd.returns rfl (Or.inl ⟨rfl, by simp, _, rfl⟩) (hb hby at_85) Bd.notSynchronized (by rw [eh_2]; exact ⟨rfl, N_2⟩) (by decide) (by decide))
    ·
      refine hst (fun _ kt => XS.ifNo X_2.here hx rfl (hb hby at_51) rfl ((if0 _ _).trans (flt (mt (lw_lt _ _).mp hv)).1) kt) ?_
      show G (T_2.setTop (mkF mI 54 #[.val (.int sel), .val (.long v), .second, .val (.int mm), .val (.int n), .val (.int kk), .val (.int b), .unset, .unset, .unset, .unset, .unset, .unset] []))
      refine o_lloadN hst X_2.here hx (hb hby at_54) (pc' := 55) rfl rfl ?_
      refine o_iload hst X_2.here hx (hb hby at_55) (pc' := 57) rfl rfl ?_
      refine o_i2l hst X_2.here hx (hb hby at_57) (pc' := 58) rfl ?_
      refine o_lsub hst X_2.here hx (hb hby at_58) (pc' := 59) rfl ?_
      refine o_goto hst X_2.here hx (hb hby at_59) (by decide) (pc' := 67) (by decide) ?_
      refine o_lstore hst X_2.here hx (hb hby at_67) (pc' := 69) rfl (Lt := #[.val (.int sel), .val (.long v), .second, .val (.int mm), .val (.int n), .val (.int kk), .val (.int b), .val (.long (v - (b.toInt64))), .second, .unset, .unset, .unset, .unset]) rfl ?_
      refine o_lload hst X_2.here hx (hb hby at_69) (pc' := 71) rfl rfl ?_
      refine o_iload hst X_2.here hx (hb hby at_71) (pc' := 73) rfl rfl ?_
      refine o_i2l hst X_2.here hx (hb hby at_73) (pc' := 74) rfl ?_
      refine hst (fun _ kt => XS.lrem X_2.here hx rfl (hb hby at_74) rfl hz kt) ?_
      show G (T_2.setTop (mkF mI 75 #[.val (.int sel), .val (.long v), .second, .val (.int mm), .val (.int n), .val (.int kk), .val (.int b), .val (.long (v - (b.toInt64))), .second, .unset, .unset, .unset, .unset] [(.long ((v - (b.toInt64)) - ((v - (b.toInt64)) / (n.toInt64)) * (n.toInt64)))]))
      refine o_lconst hst X_2.here hx (hb hby at_75) (pc' := 76) rfl (z := (0 : Int64)) rfl ?_
      refine o_lcmp hst X_2.here hx (hb hby at_76) (pc' := 77) rfl ?_
      have hr : ((v - (b.toInt64)) - ((v - (b.toInt64)) / (n.toInt64)) * (n.toInt64)) = (0 : Int64) := hm3 hv
      refine hst (fun _ kt => XS.ifNo X_2.here hx rfl (hb hby at_77) rfl ((if0 _ _).trans (teq ((lw_eq _ _).mpr hr)).2) kt) ?_
      show G (T_2.setTop (mkF mI 80 #[.val (.int sel), .val (.long v), .second, .val (.int mm), .val (.int n), .val (.int kk), .val (.int b), .val (.long (v - (b.toInt64))), .second, .unset, .unset, .unset, .unset] []))
      refine o_iconst hst X_2.here hx (hb hby at_80) (pc' := 81) rfl (z := (1 : Int32)) rfl ?_
      refine o_goto hst X_2.here hx (hb hby at_81) (by decide) (pc' := 85) (by decide) ?_
      exact hend (own_goRet X_2 hx Bd.returns rfl (Or.inl ⟨rfl, by simp, _, rfl⟩) (hb hby at_85) Bd.notSynchronized (by rw [eh_2]; exact ⟨rfl, N_2⟩) (by decide) (by decide))
  ·
    refine hst (fun _ kt => XS.ifYes X0.here hx rfl (pc0 := 20) (pc' := 86) rfl (hb hby at_20) rfl ((if0 _ _).trans (feq hk0).2) (by decide) (by decide) kt) ?_
    show G (s₁.setTop (mkF mI 86 #[.val (.int sel), .val (.long v), .second, .val (.int mm), .val (.int n), .val (.int kk), .unset, .unset, .unset, .unset, .unset, .unset, .unset] []))
    refine o_iload hst X0.here hx (hb hby at_86) (pc' := 88) rfl rfl ?_
    refine o_iconst hst X0.here hx (hb hby at_88) (pc' := 89) rfl (z := (1 : Int32)) rfl ?_
    by_cases hk1 : kk = (1 : Int32)
    ·
      refine hst (fun _ kt => XS.icmpNo X0.here hx rfl (hb hby at_89) rfl (teq hk1).2 kt) ?_
      show G (s₁.setTop (mkF mI 92 #[.val (.int sel), .val (.long v), .second, .val (.int mm), .val (.int n), .val (.int kk), .unset, .unset, .unset, .unset, .unset, .unset, .unset] []))
      obtain ⟨T_3, X_3, e_3, st_3⟩ := getS2 X0 hx hZ hown (host := "") (Or.inl (own_w33 hw)) Via.refl e0 S_a1_ (g := (mkF mI 92 #[.val (.int sel), .val (.long v), .second, .val (.int mm), .val (.int n), .val (.int kk), .unset, .unset, .unset, .unset, .unset, .unset, .unset] [])) rfl (hb hby at_92)
      refine hst st_3 ?_
      show G (T_3.setTop (mkF mI 95 #[.val (.int sel), .val (.long v), .second, .val (.int mm), .val (.int n), .val (.int kk), .unset, .unset, .unset, .unset, .unset, .unset, .unset] [(.ref a1_)]))
      refine o_lloadN hst X_3.here hx (hb hby at_95) (pc' := 96) rfl rfl ?_
      refine o_iload hst X_3.here hx (hb hby at_96) (pc' := 98) rfl rfl ?_
      obtain ⟨cq_4, kq_4, q_4a, q_4b, q_4c⟩ := isOf hZ e_3 E_a1_
      obtain ⟨_, _, ⟨T_4, L_4, k_4, n_4⟩, -, X_4, ⟨Lc_4, hQ_4, l_4, y_4, z_4⟩, st_4⟩ := X_3.virtualBack hx (y := (⟨own_BF, "bucketOf", "(JI)I"⟩ : MethodName)) (z := (⟨own_BF, "bucketOf", "(JI)I"⟩ : MethodName)) hown (mvT hZ (own_w4 hw)) (mvT hZ (own_w5 hw)) (notFace_of_selects (args := #[]) (mvT hZ (own_w7 hw))) (mvT hZ (own_w7 hw)) (mvT hZ (own_w6 hw)) (by decide) (backOf (W := 0) (rmb1 lL Z a0 hw [] a1_ v n  h0 n0 Z0 E_a1_ F_o_a1_ hn1) hZ (own_w8 hw) (own_w2 hw) (by decide) (by decide)) q_4a q_4c (g := (mkF mI 98 #[.val (.int sel), .val (.long v), .second, .val (.int mm), .val (.int n), .val (.int kk), .unset, .unset, .unset, .unset, .unset, .unset, .unset] [(.int n), (.long v), (.ref a1_)])) rfl (by rw [hml]; rfl) (Steps.refl _) (argsL := [(.long v), (.int n)]) (rest := []) (lenOf pd_6 rfl) rfl (by show 2 * 0 + _ ≤ _; exact Nat.le_of_eq rfl) (hb hby at_98) (fun _ _ => ⟨rfl, e_3, (by decide : 0 + 0 ≤ _), (by decide : 0 + 0 ≤ _)⟩)
      dsimp only [Pt.U, Pt.locs, Pt.cells, Pt.slots] at X_4 l_4 y_4 z_4 st_4 hQ_4
      subst l_4 y_4 z_4
      obtain ⟨mask, hM, rfl, N_4q, eh_4⟩ := hQ_4
      have hs := own_n1s hn1
      have hmk := own_mask (by omega) hM
      subst hmk
      have N_4 := Fr.app N0 N_4q
      refine hst (fun _ kt => st_4.trans kt) ?_
      show G (T_4.setTop (mkF mI 101 #[.val (.int sel), .val (.long v), .second, .val (.int mm), .val (.int n), .val (.int kk), .unset, .unset, .unset, .unset, .unset, .unset, .unset] [(.int (own_lin v n (own_sm (n.toInt64 - (1 : Int64)))).toInt32)]))
      have hR := own_lin_rng (v := v) (n := n) hM
      have hB := own_back hR.1 hR.2
      generalize hbb : (own_lin v n (own_sm (n.toInt64 - (1 : Int64)))).toInt32 = b at hB ⊢
      show G (T_4.setTop (mkF mI 101 #[.val (.int sel), .val (.long v), .second, .val (.int mm), .val (.int n), .val (.int kk), .unset, .unset, .unset, .unset, .unset, .unset, .unset] [(.int b)]))
      refine o_istore hst X_4.here hx (hb hby at_101) (pc' := 103) rfl (Lt := #[.val (.int sel), .val (.long v), .second, .val (.int mm), .val (.int n), .val (.int kk), .val (.int b), .unset, .unset, .unset, .unset, .unset, .unset]) rfl ?_
      refine o_iload hst X_4.here hx (hb hby at_103) (pc' := 105) rfl rfl ?_
      refine o_i2l hst X_4.here hx (hb hby at_105) (pc' := 106) rfl ?_
      refine o_lconst hst X_4.here hx (hb hby at_106) (pc' := 107) rfl (z := (1 : Int64)) rfl ?_
      refine o_lsub hst X_4.here hx (hb hby at_107) (pc' := 108) rfl ?_
      show G (T_4.setTop (mkF mI 108 #[.val (.int sel), .val (.long v), .second, .val (.int mm), .val (.int n), .val (.int kk), .val (.int b), .unset, .unset, .unset, .unset, .unset, .unset] [(.long (n.toInt64 - (1 : Int64)))]))
      refine o_lstore hst X_4.here hx (hb hby at_108) (pc' := 110) rfl (Lt := #[.val (.int sel), .val (.long v), .second, .val (.int mm), .val (.int n), .val (.int kk), .val (.int b), .val (.long (n.toInt64 - (1 : Int64))), .second, .unset, .unset, .unset, .unset]) rfl ?_
      refine o_lload hst X_4.here hx (hb hby at_110) (pc' := 112) rfl rfl ?_
      refine o_lload hst X_4.here hx (hb hby at_112) (pc' := 114) rfl rfl ?_
      refine o_iconst hst X_4.here hx (hb hby at_114) (pc' := 115) rfl (z := (1 : Int32)) rfl ?_
      refine o_lushr hst X_4.here hx (hb hby at_115) (pc' := 116) rfl ?_
      refine o_lor hst X_4.here hx (hb hby at_116) (pc' := 117) rfl ?_
      show G (T_4.setTop (mkF mI 117 #[.val (.int sel), .val (.long v), .second, .val (.int mm), .val (.int n), .val (.int kk), .val (.int b), .val (.long (n.toInt64 - (1 : Int64))), .second, .unset, .unset, .unset, .unset] [(.long (own_or (1 : Int32) (n.toInt64 - (1 : Int64))))]))
      refine o_lstore hst X_4.here hx (hb hby at_117) (pc' := 119) rfl (Lt := #[.val (.int sel), .val (.long v), .second, .val (.int mm), .val (.int n), .val (.int kk), .val (.int b), .val (.long (own_or (1 : Int32) (n.toInt64 - (1 : Int64)))), .second, .unset, .unset, .unset, .unset]) rfl ?_
      refine o_lload hst X_4.here hx (hb hby at_119) (pc' := 121) rfl rfl ?_
      refine o_lload hst X_4.here hx (hb hby at_121) (pc' := 123) rfl rfl ?_
      refine o_iconst hst X_4.here hx (hb hby at_123) (pc' := 124) rfl (z := (2 : Int32)) rfl ?_
      refine o_lushr hst X_4.here hx (hb hby at_124) (pc' := 125) rfl ?_
      refine o_lor hst X_4.here hx (hb hby at_125) (pc' := 126) rfl ?_
      show G (T_4.setTop (mkF mI 126 #[.val (.int sel), .val (.long v), .second, .val (.int mm), .val (.int n), .val (.int kk), .val (.int b), .val (.long (own_or (1 : Int32) (n.toInt64 - (1 : Int64)))), .second, .unset, .unset, .unset, .unset] [(.long (own_or (2 : Int32) (own_or (1 : Int32) (n.toInt64 - (1 : Int64)))))]))
      refine o_lstore hst X_4.here hx (hb hby at_126) (pc' := 128) rfl (Lt := #[.val (.int sel), .val (.long v), .second, .val (.int mm), .val (.int n), .val (.int kk), .val (.int b), .val (.long (own_or (2 : Int32) (own_or (1 : Int32) (n.toInt64 - (1 : Int64))))), .second, .unset, .unset, .unset, .unset]) rfl ?_
      refine o_lload hst X_4.here hx (hb hby at_128) (pc' := 130) rfl rfl ?_
      refine o_lload hst X_4.here hx (hb hby at_130) (pc' := 132) rfl rfl ?_
      refine o_iconst hst X_4.here hx (hb hby at_132) (pc' := 133) rfl (z := (4 : Int32)) rfl ?_
      refine o_lushr hst X_4.here hx (hb hby at_133) (pc' := 134) rfl ?_
      refine o_lor hst X_4.here hx (hb hby at_134) (pc' := 135) rfl ?_
      show G (T_4.setTop (mkF mI 135 #[.val (.int sel), .val (.long v), .second, .val (.int mm), .val (.int n), .val (.int kk), .val (.int b), .val (.long (own_or (2 : Int32) (own_or (1 : Int32) (n.toInt64 - (1 : Int64))))), .second, .unset, .unset, .unset, .unset] [(.long (own_or (4 : Int32) (own_or (2 : Int32) (own_or (1 : Int32) (n.toInt64 - (1 : Int64))))))]))
      refine o_lstore hst X_4.here hx (hb hby at_135) (pc' := 137) rfl (Lt := #[.val (.int sel), .val (.long v), .second, .val (.int mm), .val (.int n), .val (.int kk), .val (.int b), .val (.long (own_or (4 : Int32) (own_or (2 : Int32) (own_or (1 : Int32) (n.toInt64 - (1 : Int64)))))), .second, .unset, .unset, .unset, .unset]) rfl ?_
      refine o_lload hst X_4.here hx (hb hby at_137) (pc' := 139) rfl rfl ?_
      refine o_lload hst X_4.here hx (hb hby at_139) (pc' := 141) rfl rfl ?_
      refine o_bipush hst X_4.here hx (hb hby at_141) (pc' := 143) rfl (z := (8 : Int32)) rfl ?_
      refine o_lushr hst X_4.here hx (hb hby at_143) (pc' := 144) rfl ?_
      refine o_lor hst X_4.here hx (hb hby at_144) (pc' := 145) rfl ?_
      show G (T_4.setTop (mkF mI 145 #[.val (.int sel), .val (.long v), .second, .val (.int mm), .val (.int n), .val (.int kk), .val (.int b), .val (.long (own_or (4 : Int32) (own_or (2 : Int32) (own_or (1 : Int32) (n.toInt64 - (1 : Int64)))))), .second, .unset, .unset, .unset, .unset] [(.long (own_or (8 : Int32) (own_or (4 : Int32) (own_or (2 : Int32) (own_or (1 : Int32) (n.toInt64 - (1 : Int64)))))))]))
      refine o_lstore hst X_4.here hx (hb hby at_145) (pc' := 147) rfl (Lt := #[.val (.int sel), .val (.long v), .second, .val (.int mm), .val (.int n), .val (.int kk), .val (.int b), .val (.long (own_or (8 : Int32) (own_or (4 : Int32) (own_or (2 : Int32) (own_or (1 : Int32) (n.toInt64 - (1 : Int64))))))), .second, .unset, .unset, .unset, .unset]) rfl ?_
      refine o_lload hst X_4.here hx (hb hby at_147) (pc' := 149) rfl rfl ?_
      refine o_lload hst X_4.here hx (hb hby at_149) (pc' := 151) rfl rfl ?_
      refine o_bipush hst X_4.here hx (hb hby at_151) (pc' := 153) rfl (z := (16 : Int32)) rfl ?_
      refine o_lushr hst X_4.here hx (hb hby at_153) (pc' := 154) rfl ?_
      refine o_lor hst X_4.here hx (hb hby at_154) (pc' := 155) rfl ?_
      show G (T_4.setTop (mkF mI 155 #[.val (.int sel), .val (.long v), .second, .val (.int mm), .val (.int n), .val (.int kk), .val (.int b), .val (.long (own_or (8 : Int32) (own_or (4 : Int32) (own_or (2 : Int32) (own_or (1 : Int32) (n.toInt64 - (1 : Int64))))))), .second, .unset, .unset, .unset, .unset] [(.long (own_sm (n.toInt64 - (1 : Int64))))]))
      refine o_lstore hst X_4.here hx (hb hby at_155) (pc' := 157) rfl (Lt := #[.val (.int sel), .val (.long v), .second, .val (.int mm), .val (.int n), .val (.int kk), .val (.int b), .val (.long (own_sm (n.toInt64 - (1 : Int64)))), .second, .unset, .unset, .unset, .unset]) rfl ?_
      refine o_lloadN hst X_4.here hx (hb hby at_157) (pc' := 158) rfl rfl ?_
      refine o_lload hst X_4.here hx (hb hby at_158) (pc' := 160) rfl rfl ?_
      refine o_land hst X_4.here hx (hb hby at_160) (pc' := 161) rfl ?_
      refine o_lstore hst X_4.here hx (hb hby at_161) (pc' := 163) rfl (Lt := #[.val (.int sel), .val (.long v), .second, .val (.int mm), .val (.int n), .val (.int kk), .val (.int b), .val (.long (own_sm (n.toInt64 - (1 : Int64)))), .second, .val (.long (v &&& (own_sm (n.toInt64 - (1 : Int64))))), .second, .unset, .unset]) rfl ?_
      refine o_lload hst X_4.here hx (hb hby at_163) (pc' := 165) rfl rfl ?_
      refine o_iload hst X_4.here hx (hb hby at_165) (pc' := 167) rfl rfl ?_
      refine o_i2l hst X_4.here hx (hb hby at_167) (pc' := 168) rfl ?_
      refine o_lcmp hst X_4.here hx (hb hby at_168) (pc' := 169) rfl ?_
      by_cases hlo : (v &&& (own_sm (n.toInt64 - (1 : Int64)))) < (n.toInt64)
      ·
        refine hst (fun _ kt => XS.ifNo X_4.here hx rfl (hb hby at_169) rfl ((if0 _ _).trans (tlt ((lw_lt _ _).mpr hlo)).2.1) kt) ?_
        show G (T_4.setTop (mkF mI 172 #[.val (.int sel), .val (.long v), .second, .val (.int mm), .val (.int n), .val (.int kk), .val (.int b), .val (.long (own_sm (n.toInt64 - (1 : Int64)))), .second, .val (.long (v &&& (own_sm (n.toInt64 - (1 : Int64))))), .second, .unset, .unset] []))
        refine o_lload hst X_4.here hx (hb hby at_172) (pc' := 174) rfl rfl ?_
        refine o_goto hst X_4.here hx (hb hby at_174) (by decide) (pc' := 183) (by decide) ?_
        refine o_lstore hst X_4.here hx (hb hby at_183) (pc' := 185) rfl (Lt := #[.val (.int sel), .val (.long v), .second, .val (.int mm), .val (.int n), .val (.int kk), .val (.int b), .val (.long (own_sm (n.toInt64 - (1 : Int64)))), .second, .val (.long (v &&& (own_sm (n.toInt64 - (1 : Int64))))), .second, .val (.long (v &&& (own_sm (n.toInt64 - (1 : Int64))))), .second]) rfl ?_
        refine o_iload hst X_4.here hx (hb hby at_185) (pc' := 187) rfl rfl ?_
        refine o_i2l hst X_4.here hx (hb hby at_187) (pc' := 188) rfl ?_
        refine o_lload hst X_4.here hx (hb hby at_188) (pc' := 190) rfl rfl ?_
        refine o_lcmp hst X_4.here hx (hb hby at_190) (pc' := 191) rfl ?_
        have hq : (b.toInt64) = (v &&& (own_sm (n.toInt64 - (1 : Int64)))) := hB.trans (by rw [own_lin, if_pos hlo])
        refine hst (fun _ kt => XS.ifNo X_4.here hx rfl (hb hby at_191) rfl ((if0 _ _).trans (teq ((lw_eq _ _).mpr hq)).2) kt) ?_
        show G (T_4.setTop (mkF mI 194 #[.val (.int sel), .val (.long v), .second, .val (.int mm), .val (.int n), .val (.int kk), .val (.int b), .val (.long (own_sm (n.toInt64 - (1 : Int64)))), .second, .val (.long (v &&& (own_sm (n.toInt64 - (1 : Int64))))), .second, .val (.long (v &&& (own_sm (n.toInt64 - (1 : Int64))))), .second] []))
        refine o_iconst hst X_4.here hx (hb hby at_194) (pc' := 195) rfl (z := (1 : Int32)) rfl ?_
        refine o_goto hst X_4.here hx (hb hby at_195) (by decide) (pc' := 199) (by decide) ?_
        exact hend (own_goRet X_4 hx Bd.returns rfl (Or.inl ⟨rfl, by simp, _, rfl⟩) (hb hby at_199) Bd.notSynchronized (by rw [eh_4]; exact ⟨rfl, N_4⟩) (by decide) (by decide))
      ·
        refine hst (fun _ kt => XS.ifYes X_4.here hx rfl (pc0 := 169) (pc' := 177) rfl (hb hby at_169) rfl ((if0 _ _).trans (flt (mt (lw_lt _ _).mp hlo)).2.1) (by decide) (by decide) kt) ?_
        show G (T_4.setTop (mkF mI 177 #[.val (.int sel), .val (.long v), .second, .val (.int mm), .val (.int n), .val (.int kk), .val (.int b), .val (.long (own_sm (n.toInt64 - (1 : Int64)))), .second, .val (.long (v &&& (own_sm (n.toInt64 - (1 : Int64))))), .second, .unset, .unset] []))
        refine o_lloadN hst X_4.here hx (hb hby at_177) (pc' := 178) rfl rfl ?_
        refine o_lload hst X_4.here hx (hb hby at_178) (pc' := 180) rfl rfl ?_
        refine o_iconst hst X_4.here hx (hb hby at_180) (pc' := 181) rfl (z := (1 : Int32)) rfl ?_
        refine o_lushr hst X_4.here hx (hb hby at_181) (pc' := 182) rfl ?_
        refine o_land hst X_4.here hx (hb hby at_182) (pc' := 183) rfl ?_
        show G (T_4.setTop (mkF mI 183 #[.val (.int sel), .val (.long v), .second, .val (.int mm), .val (.int n), .val (.int kk), .val (.int b), .val (.long (own_sm (n.toInt64 - (1 : Int64)))), .second, .val (.long (v &&& (own_sm (n.toInt64 - (1 : Int64))))), .second, .unset, .unset] [(.long (v &&& (own_u1 (own_sm (n.toInt64 - (1 : Int64))))))]))
        refine o_lstore hst X_4.here hx (hb hby at_183) (pc' := 185) rfl (Lt := #[.val (.int sel), .val (.long v), .second, .val (.int mm), .val (.int n), .val (.int kk), .val (.int b), .val (.long (own_sm (n.toInt64 - (1 : Int64)))), .second, .val (.long (v &&& (own_sm (n.toInt64 - (1 : Int64))))), .second, .val (.long (v &&& (own_u1 (own_sm (n.toInt64 - (1 : Int64)))))), .second]) rfl ?_
        refine o_iload hst X_4.here hx (hb hby at_185) (pc' := 187) rfl rfl ?_
        refine o_i2l hst X_4.here hx (hb hby at_187) (pc' := 188) rfl ?_
        refine o_lload hst X_4.here hx (hb hby at_188) (pc' := 190) rfl rfl ?_
        refine o_lcmp hst X_4.here hx (hb hby at_190) (pc' := 191) rfl ?_
        have hq : (b.toInt64) = (v &&& (own_u1 (own_sm (n.toInt64 - (1 : Int64))))) := hB.trans (by rw [own_lin, if_neg hlo])
        refine hst (fun _ kt => XS.ifNo X_4.here hx rfl (hb hby at_191) rfl ((if0 _ _).trans (teq ((lw_eq _ _).mpr hq)).2) kt) ?_
        show G (T_4.setTop (mkF mI 194 #[.val (.int sel), .val (.long v), .second, .val (.int mm), .val (.int n), .val (.int kk), .val (.int b), .val (.long (own_sm (n.toInt64 - (1 : Int64)))), .second, .val (.long (v &&& (own_sm (n.toInt64 - (1 : Int64))))), .second, .val (.long (v &&& (own_u1 (own_sm (n.toInt64 - (1 : Int64)))))), .second] []))
        refine o_iconst hst X_4.here hx (hb hby at_194) (pc' := 195) rfl (z := (1 : Int32)) rfl ?_
        refine o_goto hst X_4.here hx (hb hby at_195) (by decide) (pc' := 199) (by decide) ?_
        exact hend (own_goRet X_4 hx Bd.returns rfl (Or.inl ⟨rfl, by simp, _, rfl⟩) (hb hby at_199) Bd.notSynchronized (by rw [eh_4]; exact ⟨rfl, N_4⟩) (by decide) (by decide))
    ·
      refine hst (fun _ kt => XS.icmpYes X0.here hx rfl (pc0 := 89) (pc' := 200) rfl (hb hby at_89) rfl (feq hk1).2 (by decide) (by decide) kt) ?_
      show G (s₁.setTop (mkF mI 200 #[.val (.int sel), .val (.long v), .second, .val (.int mm), .val (.int n), .val (.int kk), .unset, .unset, .unset, .unset, .unset, .unset, .unset] []))
      have hff : 2147483648 ≤ f0 := Nat.le_of_eq hf0.symm
      have hr0 := own_r0 (key := v) hff hn1 hn2
      have hl0 := own_l2i hr0.1 (by omega)
      have hpv := own_prev (f0 := f0) (key := v) (n := n)
      obtain ⟨T_5, X_5, e_5, st_5⟩ := getS2 X0 hx hZ hown (host := "") (Or.inl (own_w25 hw)) Via.refl e0 S_a2_ (g := (mkF mI 200 #[.val (.int sel), .val (.long v), .second, .val (.int mm), .val (.int n), .val (.int kk), .unset, .unset, .unset, .unset, .unset, .unset, .unset] [])) rfl (hb hby at_200)
      refine hst st_5 ?_
      show G (T_5.setTop (mkF mI 203 #[.val (.int sel), .val (.long v), .second, .val (.int mm), .val (.int n), .val (.int kk), .unset, .unset, .unset, .unset, .unset, .unset, .unset] [(.ref a2_)]))
      refine o_lloadN hst X_5.here hx (hb hby at_203) (pc' := 204) rfl rfl ?_
      refine o_iload hst X_5.here hx (hb hby at_204) (pc' := 206) rfl rfl ?_
      obtain ⟨cq_6, kq_6, q_6a, q_6b, q_6c⟩ := isOf hZ e_5 E_a2_
      obtain ⟨_, _, ⟨T_6, L_6, k_6, n_6⟩, -, X_6, ⟨Lc_6, hQ_6, l_6, y_6, z_6⟩, st_6⟩ := X_5.virtualBack hx (y := (⟨own_BF, "bucketOf", "(JI)I"⟩ : MethodName)) (z := (⟨own_BF, "bucketOf", "(JI)I"⟩ : MethodName)) hown (mvT hZ (own_w4 hw)) (mvT hZ (own_w5 hw)) (notFace_of_selects (args := #[]) (mvT hZ (own_w7 hw))) (mvT hZ (own_w7 hw)) (mvT hZ (own_w6 hw)) (by decide) (backOf (W := 0) (rmb2 lL Z a0 hw [] a2_ v n f0 h0 n0 Z0 E_a2_ F_o_a2_ hn1 hn2 (by omega)) hZ (own_w8 hw) (own_w2 hw) (by decide) (by decide)) q_6a q_6c (g := (mkF mI 206 #[.val (.int sel), .val (.long v), .second, .val (.int mm), .val (.int n), .val (.int kk), .unset, .unset, .unset, .unset, .unset, .unset, .unset] [(.int n), (.long v), (.ref a2_)])) rfl (by rw [hml]; rfl) (Steps.refl _) (argsL := [(.long v), (.int n)]) (rest := []) (lenOf pd_6 rfl) rfl (by show 2 * 0 + _ ≤ _; exact Nat.le_of_eq rfl) (hb hby at_206) (fun _ _ => ⟨rfl, e_5, (by decide : 0 + 0 ≤ _), (by decide : 0 + 0 ≤ _)⟩)
      dsimp only [Pt.U, Pt.locs, Pt.cells, Pt.slots] at X_6 l_6 y_6 z_6 st_6 hQ_6
      subst l_6 y_6 z_6
      obtain ⟨rfl, N_6q, eh_6⟩ := hQ_6
      have N_6 := Fr.app N0 N_6q
      refine hst (fun _ kt => st_6.trans kt) ?_
      show G (T_6.setTop (mkF mI 209 #[.val (.int sel), .val (.long v), .second, .val (.int mm), .val (.int n), .val (.int kk), .unset, .unset, .unset, .unset, .unset, .unset, .unset] [(.int (own_run f0 v (-1 : Int64) (0 : Int64) n.toInt64).toInt32)]))
      generalize (own_run f0 v (-1 : Int64) (0 : Int64) n.toInt64).toInt32 = b at hl0 hpv ⊢
      show G (T_6.setTop (mkF mI 209 #[.val (.int sel), .val (.long v), .second, .val (.int mm), .val (.int n), .val (.int kk), .unset, .unset, .unset, .unset, .unset, .unset, .unset] [(.int b)]))
      refine o_istore hst X_6.here hx (hb hby at_209) (pc' := 211) rfl (Lt := #[.val (.int sel), .val (.long v), .second, .val (.int mm), .val (.int n), .val (.int kk), .val (.int b), .unset, .unset, .unset, .unset, .unset, .unset]) rfl ?_
      refine o_iload hst X_6.here hx (hb hby at_211) (pc' := 213) rfl rfl ?_
      have hb0 : ¬ (b < (0 : Int32)) := by rw [Int32.lt_iff_toInt_lt, show (0 : Int32).toInt = 0 from rfl]; omega
      refine hst (fun _ kt => XS.ifNo X_6.here hx rfl (hb hby at_213) rfl ((if0 _ _).trans (flt hb0).1) kt) ?_
      show G (T_6.setTop (mkF mI 216 #[.val (.int sel), .val (.long v), .second, .val (.int mm), .val (.int n), .val (.int kk), .val (.int b), .unset, .unset, .unset, .unset, .unset, .unset] []))
      refine o_iload hst X_6.here hx (hb hby at_216) (pc' := 218) rfl rfl ?_
      refine o_iload hst X_6.here hx (hb hby at_218) (pc' := 220) rfl rfl ?_
      have hb1 : b < n := by rw [Int32.lt_iff_toInt_lt]; omega
      refine hst (fun _ kt => XS.icmpYes X_6.here hx rfl (pc0 := 220) (pc' := 225) rfl (hb hby at_220) rfl (tlt hb1).1 (by decide) (by decide) kt) ?_
      show G (T_6.setTop (mkF mI 225 #[.val (.int sel), .val (.long v), .second, .val (.int mm), .val (.int n), .val (.int kk), .val (.int b), .unset, .unset, .unset, .unset, .unset, .unset] []))
      refine o_iload hst X_6.here hx (hb hby at_225) (pc' := 227) rfl rfl ?_
      refine o_iconst hst X_6.here hx (hb hby at_227) (pc' := 228) rfl (z := (1 : Int32)) rfl ?_
      by_cases hone : n = (1 : Int32)
      ·
        refine hst (fun _ kt => XS.icmpNo X_6.here hx rfl (hb hby at_228) rfl (teq hone).2 kt) ?_
        show G (T_6.setTop (mkF mI 231 #[.val (.int sel), .val (.long v), .second, .val (.int mm), .val (.int n), .val (.int kk), .val (.int b), .unset, .unset, .unset, .unset, .unset, .unset] []))
        refine o_iload hst X_6.here hx (hb hby at_231) (pc' := 233) rfl rfl ?_
        have hb2 : b = (0 : Int32) := by have q : n.toInt = 1 := (by rw [hone]; rfl); apply Int32.toInt_inj.mp; rw [show (0 : Int32).toInt = 0 from rfl]; omega
        refine hst (fun _ kt => XS.ifNo X_6.here hx rfl (hb hby at_233) rfl ((if0 _ _).trans (teq hb2).2) kt) ?_
        show G (T_6.setTop (mkF mI 236 #[.val (.int sel), .val (.long v), .second, .val (.int mm), .val (.int n), .val (.int kk), .val (.int b), .unset, .unset, .unset, .unset, .unset, .unset] []))
        refine o_iconst hst X_6.here hx (hb hby at_236) (pc' := 237) rfl (z := (1 : Int32)) rfl ?_
        refine o_goto hst X_6.here hx (hb hby at_237) (by decide) (pc' := 241) (by decide) ?_
        exact hend (own_goRet X_6 hx Bd.returns rfl (Or.inl ⟨rfl, by simp, _, rfl⟩) (hb hby at_241) Bd.notSynchronized (by rw [eh_6]; exact ⟨rfl, N_6⟩) (by decide) (by decide))
      ·
        refine hst (fun _ kt => XS.icmpYes X_6.here hx rfl (pc0 := 228) (pc' := 242) rfl (hb hby at_228) rfl (feq hone).2 (by decide) (by decide) kt) ?_
        show G (T_6.setTop (mkF mI 242 #[.val (.int sel), .val (.long v), .second, .val (.int mm), .val (.int n), .val (.int kk), .val (.int b), .unset, .unset, .unset, .unset, .unset, .unset] []))
        have hn3 : 2 ≤ n.toInt := by rw [← Int32.toInt_inj, show (1 : Int32).toInt = 1 from rfl] at hone; omega
        have hs1 : (n - (1 : Int32)).toInt = n.toInt - 1 := by
          have z1 := c_isub n (1 : Int32)
          have z2 := Int32.le_toInt (n - (1 : Int32))
          have z3 := Int32.toInt_lt (n - (1 : Int32))
          have z4 : (1 : Int32).toInt = 1 := rfl
          omega
        obtain ⟨T_7, X_7, e_7, st_7⟩ := getS2 X_6 hx hZ hown (host := "") (Or.inl (own_w25 hw)) Via.refl eh_6 S_a2_ (g := (mkF mI 242 #[.val (.int sel), .val (.long v), .second, .val (.int mm), .val (.int n), .val (.int kk), .val (.int b), .unset, .unset, .unset, .unset, .unset, .unset] [])) rfl (hb hby at_242)
        refine hst st_7 ?_
        show G (T_7.setTop (mkF mI 245 #[.val (.int sel), .val (.long v), .second, .val (.int mm), .val (.int n), .val (.int kk), .val (.int b), .unset, .unset, .unset, .unset, .unset, .unset] [(.ref a2_)]))
        refine o_lloadN hst X_7.here hx (hb hby at_245) (pc' := 246) rfl rfl ?_
        refine o_iload hst X_7.here hx (hb hby at_246) (pc' := 248) rfl rfl ?_
        refine o_iconst hst X_7.here hx (hb hby at_248) (pc' := 249) rfl (z := (1 : Int32)) rfl ?_
        refine o_isub hst X_7.here hx (hb hby at_249) (pc' := 250) rfl ?_
        obtain ⟨cq_8, kq_8, q_8a, q_8b, q_8c⟩ := isOf hZ e_7 E_a2_
        obtain ⟨_, _, ⟨T_8, L_8, k_8, n_8⟩, -, X_8, ⟨Lc_8, hQ_8, l_8, y_8, z_8⟩, st_8⟩ := X_7.virtualBack hx (y := (⟨own_BF, "bucketOf", "(JI)I"⟩ : MethodName)) (z := (⟨own_BF, "bucketOf", "(JI)I"⟩ : MethodName)) hown (mvT hZ (own_w4 hw)) (mvT hZ (own_w5 hw)) (notFace_of_selects (args := #[]) (mvT hZ (own_w7 hw))) (mvT hZ (own_w7 hw)) (mvT hZ (own_w6 hw)) (by decide) (backOf (W := 0) (rmb2 lL Z a0 hw [] a2_ v (n - (1 : Int32)) f0 h0 n0 Z0 E_a2_ F_o_a2_ (by omega) (by omega) (by omega)) hZ (own_w8 hw) (own_w2 hw) (by decide) (by decide)) q_8a q_8c (g := (mkF mI 250 #[.val (.int sel), .val (.long v), .second, .val (.int mm), .val (.int n), .val (.int kk), .val (.int b), .unset, .unset, .unset, .unset, .unset, .unset] [(.int (n - (1 : Int32))), (.long v), (.ref a2_)])) rfl (by rw [hml]; rfl) (Steps.refl _) (argsL := [(.long v), (.int (n - (1 : Int32)))]) (rest := []) (lenOf pd_6 rfl) rfl (by show 2 * 0 + _ ≤ _; exact Nat.le_of_eq rfl) (hb hby at_250) (fun _ _ => ⟨rfl, e_7, (by decide : 0 + 0 ≤ _), (by decide : 0 + 0 ≤ _)⟩)
        dsimp only [Pt.U, Pt.locs, Pt.cells, Pt.slots] at X_8 l_8 y_8 z_8 st_8 hQ_8
        subst l_8 y_8 z_8
        obtain ⟨rfl, N_8q, eh_8⟩ := hQ_8
        have N_8 := Fr.app N_6 N_8q
        refine hst (fun _ kt => st_8.trans kt) ?_
        show G (T_8.setTop (mkF mI 253 #[.val (.int sel), .val (.long v), .second, .val (.int mm), .val (.int n), .val (.int kk), .val (.int b), .unset, .unset, .unset, .unset, .unset, .unset] [(.int (own_run f0 v (-1 : Int64) (0 : Int64) (n - (1 : Int32)).toInt64).toInt32)]))
        refine o_istore hst X_8.here hx (hb hby at_253) (pc' := 255) rfl (Lt := #[.val (.int sel), .val (.long v), .second, .val (.int mm), .val (.int n), .val (.int kk), .val (.int b), .val (.int (own_run f0 v (-1 : Int64) (0 : Int64) (n - (1 : Int32)).toInt64).toInt32), .unset, .unset, .unset, .unset, .unset]) rfl ?_
        refine o_iload hst X_8.here hx (hb hby at_255) (pc' := 257) rfl rfl ?_
        refine o_iload hst X_8.here hx (hb hby at_257) (pc' := 259) rfl rfl ?_
        by_cases hbc : b = (own_run f0 v (-1 : Int64) (0 : Int64) (n - (1 : Int32)).toInt64).toInt32
        ·
          refine hst (fun _ kt => XS.icmpYes X_8.here hx rfl (pc0 := 259) (pc' := 271) rfl (hb hby at_259) rfl (teq hbc).1 (by decide) (by decide) kt) ?_
          show G (T_8.setTop (mkF mI 271 #[.val (.int sel), .val (.long v), .second, .val (.int mm), .val (.int n), .val (.int kk), .val (.int b), .val (.int (own_run f0 v (-1 : Int64) (0 : Int64) (n - (1 : Int32)).toInt64).toInt32), .unset, .unset, .unset, .unset, .unset] []))
          refine o_iconst hst X_8.here hx (hb hby at_271) (pc' := 272) rfl (z := (1 : Int32)) rfl ?_
          refine o_goto hst X_8.here hx (hb hby at_272) (by decide) (pc' := 276) (by decide) ?_
          exact hend (own_goRet X_8 hx Bd.returns rfl (Or.inl ⟨rfl, by simp, _, rfl⟩) (hb hby at_276) Bd.notSynchronized (by rw [eh_8]; exact ⟨rfl, N_8⟩) (by decide) (by decide))
        ·
          refine hst (fun _ kt => XS.icmpNo X_8.here hx rfl (hb hby at_259) rfl (feq hbc).1 kt) ?_
          show G (T_8.setTop (mkF mI 262 #[.val (.int sel), .val (.long v), .second, .val (.int mm), .val (.int n), .val (.int kk), .val (.int b), .val (.int (own_run f0 v (-1 : Int64) (0 : Int64) (n - (1 : Int32)).toInt64).toInt32), .unset, .unset, .unset, .unset, .unset] []))
          refine o_iload hst X_8.here hx (hb hby at_262) (pc' := 264) rfl rfl ?_
          refine o_iload hst X_8.here hx (hb hby at_264) (pc' := 266) rfl rfl ?_
          refine o_iconst hst X_8.here hx (hb hby at_266) (pc' := 267) rfl (z := (1 : Int32)) rfl ?_
          refine o_isub hst X_8.here hx (hb hby at_267) (pc' := 268) rfl ?_
          have hbn : b = (n - (1 : Int32)) := (hpv hn3).resolve_left hbc
          refine hst (fun _ kt => XS.icmpNo X_8.here hx rfl (hb hby at_268) rfl (teq hbn).2 kt) ?_
          show G (T_8.setTop (mkF mI 271 #[.val (.int sel), .val (.long v), .second, .val (.int mm), .val (.int n), .val (.int kk), .val (.int b), .val (.int (own_run f0 v (-1 : Int64) (0 : Int64) (n - (1 : Int32)).toInt64).toInt32), .unset, .unset, .unset, .unset, .unset] []))
          refine o_iconst hst X_8.here hx (hb hby at_271) (pc' := 272) rfl (z := (1 : Int32)) rfl ?_
          refine o_goto hst X_8.here hx (hb hby at_272) (by decide) (pc' := 276) (by decide) ?_
          exact hend (own_goRet X_8 hx Bd.returns rfl (Or.inl ⟨rfl, by simp, _, rfl⟩) (hb hby at_276) Bd.notSynchronized (by rw [eh_8]; exact ⟨rfl, N_8⟩) (by decide) (by decide))
set_option maxRecDepth 65536 in
set_option maxHeartbeats 40000000 in
theorem comes_1 {Post : Tables → Env → Array Value → State → Outcome → State → Prop} (hpost : ∀ tb e args s v u, (limb_1_1.after args s (.returned v) u = true ∧ limb_1_2.after args s (.returned v) u = true ∧ True) → FrameEnd s (.returned v) u (Jvm.fieldLocs frame_1_writes args s ++ Jvm.arrayLocs frame_1_arrays args s ++ Jvm.staticLocs frame_1_statics s) 0 0 → Post tb e args s (.returned v) u) :
    ArmFor flags0 classFile x code maxLocals ret World_1 tables_1 room_1 Calls_1 rest_1 Pre_1 Post := by
  intro l hfl _ _ p e ha hc hk s m args below hf hA hF happ hP
  obtain ⟨hcalls, hrest, hpre⟩ := hP
  obtain ⟨-, -, -, hnamed, -, -, -, hat⟩ := (Spec.applies_iff hf).mp happ
  obtain ⟨hg, hn⟩ := and_e (Cond.before_iff.mp (show (Jvm.Cond.and given_1 narrow_1).before args s = true from hpre))
  obtain ⟨gc, g0⟩ := and_e hg
  obtain ⟨ga0, g1⟩ := and_e g0
  obtain ⟨ga1, g2⟩ := and_e g1
  obtain ⟨w0, w1, w2, rfl⟩ : ∃ w0 w1 w2 : Value, args = #[w0, w1, w2] := by
    have hs : args.size = 3 := by simpa [Cond.value, given_1] using gc
    obtain ⟨L⟩ := args
    match L, hs with
    | [w0, w1, w2], _ => exact ⟨w0, w1, w2, rfl⟩
  have hw := fun d (hd : d ∈ tables_1) => atoms_spec (ws := Jvm.Cond.code x code maxLocals ret :: tables_1) hat d (List.mem_cons_of_mem _ hd)
  have hfit : Fit s := fun {y c} hc i hi => by
    obtain ⟨ha, rfl⟩ := Array.getElem?_eq_some_iff.mp hc
    have q := List.all_eq_true.mp ((Array.all_eq_true_iff_forall_mem.mp hF) _ (Array.getElem_mem ha)) i (List.mem_range.mpr hi)
    simpa [Array.getElem?_eq_getElem hi] using q
  obtain ⟨i0, ei0⟩ := is_v ga0
  obtain rfl : w0 = (.int i0) := Option.some.inj ei0
  obtain ⟨i1, ei1⟩ := isL_v ga1
  obtain rfl : w1 = (.long i1) := Option.some.inj ei1
  obtain ⟨i2, ei2⟩ := is_v g2
  obtain rfl : w2 = (.int i2) := Option.some.inj ei2
  obtain ⟨n1, m1⟩ := and_e hn
  obtain ⟨n2, m2⟩ := and_e m1
  obtain ⟨n3, m3⟩ := and_e m2
  obtain ⟨n4, m4⟩ := and_e m3
  obtain ⟨n5, n6⟩ := and_e m4
  obtain ⟨a0_, eva0_⟩ := exa_v n1
  have E_a0_ := Exa.start eva0_ n1
  have F_a0_ := own_fldI n2 eva0_
  have S_a0_ := Sta.start eva0_ (Or.inr ⟨(own_w2 hw), (own_w3 hw)⟩)
  obtain ⟨a2_, eva2_⟩ := exa_v n3
  have E_a2_ := Exa.start eva2_ n3
  have F_a2_ := own_fldI n4 eva2_
  have S_a2_ := Sta.start eva2_ (Or.inr ⟨(own_w2 hw), (own_w26 hw)⟩)
  obtain ⟨a1_, eva1_⟩ := exa_v n5
  have E_a1_ := Exa.start eva1_ n5
  have F_a1_ := own_fldI n6 eva1_
  have S_a1_ := Sta.start eva1_ (Or.inr ⟨(own_w2 hw), (own_w34 hw)⟩)
  obtain ⟨n, o, h1, h2, h3, _, L, rfl, ⟨rfl, N⟩, hq⟩ := rm0 l s _ hw tables_1 i0 i1 i2 a0_ a1_ a2_ s.heap s.heap.size (Nat.le_refl _) S_a0_ E_a0_ F_a0_ S_a1_ E_a1_ F_a1_ S_a2_ E_a2_ F_a2_ p e ha hc hk s m _ below hf ((Spec.applies_iff_loose hf).mp happ).1 ⟨rfl, State.Warmed39.refl s, rfl⟩ trivial
  refine ⟨n, _, h1, h2, h3, hpost _ _ _ _ _ _ ⟨Cond.after_iff.mpr rfl, Cond.after_iff.mpr (eq_i res_at (Term.int_eval (1)) rfl), trivial⟩ ⟨hq.1, hq.2.1, (hq.2.2.sift fun y hy => Or.inr (N y hy)).mono (by decide) (by decide)⟩⟩
theorem main_1_1 : Claimed_1_1 := comes_1 fun _ _ _ _ _ _ h hF => ⟨h.1, hF⟩
theorem main_1_2 : Claimed_1_2 := comes_1 fun _ _ _ _ _ _ h hF => ⟨h.2.1, hF⟩
end Jvm.Pilot.@@N@@
namespace Jvm.Pilot.@@N@@
open Jvm Jvm.ClassFile Sem Op Lib Jvm.Free Jvm.Stand Jvm.Pilot.@@N@@.Jvm.D
/-! MADE BY PROGRAM (witnessworld.py) out of the Statement's table words and the real class files: 17 classes; the members and pool entries that the words name. The judged class is class 1, her method 1. -/
namespace start1
open Jvm.ClassFile
def u (s : String) : CpInfo := .utf8 (stringToUtf16 s)
/-- a pool by its gaps: so many unusable entries, then the entry; so many at the end -/
def gap : Nat → List CpInfo → List CpInfo
  | 0, r => r
  | n + 1, r => .unusable :: gap n r
def poolList (es : List (Nat × CpInfo)) (last : Nat) : List CpInfo := es.foldr (fun e r => gap e.1 (e.2 :: r)) (gap last [])
def pool (es : List (Nat × CpInfo)) (last : Nat) : Array CpInfo := ⟨poolList es last⟩
def fileOf (pool : Array CpInfo) (this : Nat) (attrs : Array Attribute := #[]) (ms : Array MethodInfo := #[]) (fl : Nat := 33) (sup : Nat := 0) (ifs : Array Nat := #[]) (fds : Array FieldInfo := #[]) : ClassFile where
  minorVersion := 0
  majorVersion := 65
  constantPool := pool
  accessFlags := fl
  thisClass := this
  superClass := sup
  interfaces := ifs
  fields := fds
  methods := ms
  attributes := attrs
def plain (name : String) (sup : Option ClassId) : Class where
  name := name
  kind := .ordinary
  loader := none
  accessFlags := 33
  super := sup
  interfaces := #[]
  cf := none
  fields := #[]
  methods := #[]
  instanceTypes := #[]
  staticTypes := #[]
  resolved := #[]
  callSites := []
  init := .initialized
  statics := none
  mirror := none

def pool0 : Array CpInfo := pool [(5, u "<init>"), (0, u "()V"), (1, .class_ 10), (1, u "java/lang/Object")] 113

def k0m0 : Method := { name := "<init>", desc := "()V", sig := { parameters := [], returnType := none }, accessFlags := 1, code := none }
/-- java/lang/Object -/
def k0 : Class := { plain "java/lang/Object" none with
  accessFlags := 33
  interfaces := #[]
  cf := some (fileOf pool0 8 #[] #[{ accessFlags := 1, nameIndex := 5, descriptorIndex := 6, attributes := #[] }] 33 0 #[] #[])
  fields := #[]
  methods := #[k0m0]
  instanceTypes := #[]
  staticTypes := #[]
  resolved := Array.replicate 124 none
  statics := none }

def pool1 : Array CpInfo := pool [(2, .class_ 4), (1, u "java/lang/Object"), (0, u "<init>"), (0, u "()V"), (0, .integer 2147483647), (0, .fieldref 9 10), (0, .class_ 11), (0, .nameAndType 12 13), (0, u "com/example/splitpoint/splitpoint/placement/BucketFunction"), (0, u "MOD"), (0, u "Lcom/example/splitpoint/splitpoint/placement/BucketFunction;"), (0, .methodref 9 15), (0, .nameAndType 16 17), (0, u "bucketOf"), (0, u "(JI)I"), (0, .fieldref 9 19), (0, .nameAndType 20 13), (0, u "LINEAR"), (0, .fieldref 9 22), (0, .nameAndType 23 13), (0, u "JUMP"), (0, .class_ 25), (0, u "com/example/splitpoint/splitpoint/placement/BucketFunctionBucketOfPinLaw"), (2, u "law"), (0, u "(IJI)Z")] 3

def k1m0 : Method := { name := "<init>", desc := "()V", sig := { parameters := [], returnType := none }, accessFlags := 1, code := none }
def k1c1 : Code := { maxStack := 5, maxLocals := 13, code := code, exceptionTable := #[], attributes := #[] }
def k1m1 : Method := { name := "law", desc := "(IJI)Z", sig := { parameters := [.int, .long, .int], returnType := some .boolean }, accessFlags := 9, code := some k1c1 }
/-- com/example/splitpoint/splitpoint/placement/BucketFunctionBucketOfPinLaw -/
def k1 : Class := { plain "com/example/splitpoint/splitpoint/placement/BucketFunctionBucketOfPinLaw" (some 0) with
  accessFlags := 49
  interfaces := #[]
  cf := some (fileOf pool1 24 #[] #[{ accessFlags := 1, nameIndex := 5, descriptorIndex := 6, attributes := #[] }, { accessFlags := 9, nameIndex := 28, descriptorIndex := 29, attributes := #[] }] 49 2 #[] #[])
  fields := #[]
  methods := #[k1m0, k1m1]
  instanceTypes := #[]
  staticTypes := #[]
  resolved := Array.replicate 33 none
  statics := none }

def pool2 : Array CpInfo := pool [(1, .class_ 2), (0, u "java/lang/constant/Constable"), (0, .class_ 4), (0, u "java/lang/Object")] 6

/-- java/lang/constant/Constable -/
def k2 : Class := { plain "java/lang/constant/Constable" (some 0) with
  accessFlags := 1537
  interfaces := #[]
  cf := some (fileOf pool2 1 #[] #[] 1537 3 #[] #[])
  fields := #[]
  methods := #[]
  instanceTypes := #[]
  staticTypes := #[]
  resolved := Array.replicate 11 none
  statics := none }

def pool3 : Array CpInfo := pool [(1, .class_ 2), (0, u "java/lang/Comparable"), (0, .class_ 4), (0, u "java/lang/Object")] 7

/-- java/lang/Comparable -/
def k3 : Class := { plain "java/lang/Comparable" (some 0) with
  accessFlags := 1537
  interfaces := #[]
  cf := some (fileOf pool3 1 #[] #[] 1537 3 #[] #[])
  fields := #[]
  methods := #[]
  instanceTypes := #[]
  staticTypes := #[]
  resolved := Array.replicate 12 none
  statics := none }

def pool4 : Array CpInfo := pool [(1, .class_ 2), (0, u "java/io/Serializable"), (0, .class_ 4), (0, u "java/lang/Object")] 2

/-- java/io/Serializable -/
def k4 : Class := { plain "java/io/Serializable" (some 0) with
  accessFlags := 1537
  interfaces := #[]
  cf := some (fileOf pool4 1 #[] #[] 1537 3 #[] #[])
  fields := #[]
  methods := #[]
  instanceTypes := #[]
  staticTypes := #[]
  resolved := Array.replicate 7 none
  statics := none }

def pool5 : Array CpInfo := pool [(2, .class_ 4), (1, u "java/lang/Enum"), (0, u "name"), (0, u "Ljava/lang/String;"), (0, .fieldref 2 8), (0, .nameAndType 9 10), (0, u "ordinal"), (0, u "I"), (1, .class_ 14), (1, u "java/lang/Object"), (4, u "hash"), (86, .class_ 108), (1, u "java/lang/Enum$EnumDesc"), (2, .class_ 112), (0, u "java/lang/constant/Constable"), (0, .class_ 114), (0, u "java/lang/Comparable"), (0, .class_ 116), (0, u "java/io/Serializable"), (9, u "()I")] 77

def k5c0 : Code := { maxStack := 1, maxLocals := 1, code := jdk_37_method_2_code, exceptionTable := #[], attributes := #[] }
def k5m0 : Method := { name := "ordinal", desc := "()I", sig := { parameters := [], returnType := some .int }, accessFlags := 17, code := some k5c0 }
/-- java/lang/Enum -/
def k5 : Class := { plain "java/lang/Enum" (some 0) with
  accessFlags := 1057
  interfaces := #[2, 3, 4]
  cf := some (fileOf pool5 2 #[.nestMembers #[106]] #[{ accessFlags := 17, nameIndex := 9, descriptorIndex := 126, attributes := #[] }] 1057 12 #[111, 113, 115] #[{ accessFlags := 18, nameIndex := 5, descriptorIndex := 6, attributes := #[] }, { accessFlags := 18, nameIndex := 9, descriptorIndex := 10, attributes := #[] }, { accessFlags := 2, nameIndex := 19, descriptorIndex := 10, attributes := #[] }])
  fields := #[{ name := "name", type := (.object "java/lang/String"), accessFlags := 18, slot := 0, constantValue := 0 }, { name := "ordinal", type := .int, accessFlags := 18, slot := 1, constantValue := 0 }, { name := "hash", type := .int, accessFlags := 2, slot := 2, constantValue := 0 }]
  methods := #[k5m0]
  instanceTypes := #[(.object "java/lang/String"), .int, .int]
  staticTypes := #[]
  resolved := Array.replicate 204 none
  statics := none }

def pool6 : Array CpInfo := pool [(1, .class_ 2), (0, u "com/example/splitpoint/splitpoint/placement/BucketFunction"), (2, u "MOD"), (0, u "Lcom/example/splitpoint/splitpoint/placement/BucketFunction;"), (2, u "LINEAR"), (2, u "JUMP"), (2, u "$VALUES"), (0, u "[Lcom/example/splitpoint/splitpoint/placement/BucketFunction;"), (6, .class_ 25), (1, u "java/lang/Enum"), (42, .methodref 1 69), (0, .nameAndType 70 71), (0, u "checkBucketCount"), (0, u "(I)V"), (0, .methodref 1 73), (0, .nameAndType 74 75), (0, u "ordinal"), (0, u "()I"), (5, .methodref 82 83), (0, .class_ 84), (0, .nameAndType 85 86), (0, u "java/lang/Math"), (0, u "abs"), (0, u "(J)J"), (0, .methodref 1 88), (0, .nameAndType 89 90), (0, u "linear"), (0, u "(JI)J"), (0, .methodref 1 92), (0, .nameAndType 93 90), (0, u "jump"), (3, .methodref 98 99), (0, .class_ 100), (0, .nameAndType 101 102), (0, u "java/lang/Long"), (0, u "numberOfLeadingZeros"), (0, u "(J)I"), (0, .long 18446744073709551615), (1, .long 2862933555777941757), (1, .double 4746794007248502784), (8, u "JUMP_MULTIPLIER"), (0, u "J"), (1, u "TWO_TO_31"), (0, u "D"), (8, u "bucketOf"), (0, u "(JI)I")] 21

def k6c0 : Code := { maxStack := 4, maxLocals := 6, code := prog_19_method_6_code, exceptionTable := #[], attributes := #[] }
def k6m0 : Method := { name := "bucketOf", desc := "(JI)I", sig := { parameters := [.long, .int], returnType := some .int }, accessFlags := 1, code := some k6c0 }
def k6c1 : Code := { maxStack := 3, maxLocals := 1, code := prog_19_method_7_code, exceptionTable := #[], attributes := #[] }
def k6m1 : Method := { name := "checkBucketCount", desc := "(I)V", sig := { parameters := [.int], returnType := none }, accessFlags := 8, code := some k6c1 }
def k6c2 : Code := { maxStack := 5, maxLocals := 8, code := prog_19_method_8_code, exceptionTable := #[], attributes := #[] }
def k6m2 : Method := { name := "linear", desc := "(JI)J", sig := { parameters := [.long, .int], returnType := some .long }, accessFlags := 10, code := some k6c2 }
def k6c3 : Code := { maxStack := 8, maxLocals := 9, code := prog_19_method_9_code, exceptionTable := #[], attributes := #[] }
def k6m3 : Method := { name := "jump", desc := "(JI)J", sig := { parameters := [.long, .int], returnType := some .long }, accessFlags := 10, code := some k6c3 }
/-- com/example/splitpoint/splitpoint/placement/BucketFunction -/
def k6 : Class := { plain "com/example/splitpoint/splitpoint/placement/BucketFunction" (some 5) with
  accessFlags := 16433
  interfaces := #[]
  cf := some (fileOf pool6 1 #[] #[{ accessFlags := 1, nameIndex := 129, descriptorIndex := 130, attributes := #[] }, { accessFlags := 8, nameIndex := 70, descriptorIndex := 71, attributes := #[] }, { accessFlags := 10, nameIndex := 89, descriptorIndex := 90, attributes := #[] }, { accessFlags := 10, nameIndex := 93, descriptorIndex := 90, attributes := #[] }] 16433 23 #[] #[{ accessFlags := 16409, nameIndex := 5, descriptorIndex := 6, attributes := #[] }, { accessFlags := 16409, nameIndex := 9, descriptorIndex := 6, attributes := #[] }, { accessFlags := 16409, nameIndex := 12, descriptorIndex := 6, attributes := #[] }, { accessFlags := 26, nameIndex := 116, descriptorIndex := 117, attributes := #[] }, { accessFlags := 26, nameIndex := 119, descriptorIndex := 120, attributes := #[] }, { accessFlags := 4122, nameIndex := 15, descriptorIndex := 16, attributes := #[] }])
  fields := #[{ name := "MOD", type := (.object "com/example/splitpoint/splitpoint/placement/BucketFunction"), accessFlags := 16409, slot := 0, constantValue := 0 }, { name := "LINEAR", type := (.object "com/example/splitpoint/splitpoint/placement/BucketFunction"), accessFlags := 16409, slot := 1, constantValue := 0 }, { name := "JUMP", type := (.object "com/example/splitpoint/splitpoint/placement/BucketFunction"), accessFlags := 16409, slot := 2, constantValue := 0 }, { name := "JUMP_MULTIPLIER", type := .long, accessFlags := 26, slot := 3, constantValue := 0 }, { name := "TWO_TO_31", type := .double, accessFlags := 26, slot := 4, constantValue := 0 }, { name := "$VALUES", type := (.array (.object "com/example/splitpoint/splitpoint/placement/BucketFunction")), accessFlags := 4122, slot := 5, constantValue := 0 }]
  methods := #[k6m0, k6m1, k6m2, k6m3]
  instanceTypes := #[(.object "java/lang/String"), .int, .int]
  staticTypes := #[(.object "com/example/splitpoint/splitpoint/placement/BucketFunction"), (.object "com/example/splitpoint/splitpoint/placement/BucketFunction"), (.object "com/example/splitpoint/splitpoint/placement/BucketFunction"), .long, .double, (.array (.object "com/example/splitpoint/splitpoint/placement/BucketFunction"))]
  resolved := Array.replicate 152 none
  statics := some 0 }

def pool7 : Array CpInfo := pool [(1, .class_ 2), (0, u "java/lang/Math"), (1, .class_ 6), (1, u "java/lang/Object"), (0, u "<init>"), (0, u "()V"), (89, .class_ 100), (1, u "java/lang/Math$RandomNumberGeneratorHolder"), (23, u "abs"), (0, u "(J)J"), (46, u "negativeZeroFloatBits"), (0, u "J"), (2, u "negativeZeroDoubleBits"), (68, u "$assertionsDisabled"), (0, u "Z"), (91, u "twoToTheDoubleScaleDown"), (0, u "D"), (4, u "twoToTheDoubleScaleUp"), (9, u "E"), (3, u "PI"), (2, u "TAU"), (2, u "DEGREES_TO_RADIANS"), (0, u "RADIANS_TO_DEGREES")] 94

def k7m0 : Method := { name := "<init>", desc := "()V", sig := { parameters := [], returnType := none }, accessFlags := 2, code := none }
def k7c1 : Code := { maxStack := 4, maxLocals := 2, code := jdk_29_method_61_code, exceptionTable := #[], attributes := #[] }
def k7m1 : Method := { name := "abs", desc := "(J)J", sig := { parameters := [.long], returnType := some .long }, accessFlags := 9, code := some k7c1 }
/-- java/lang/Math -/
def k7 : Class := { plain "java/lang/Math" (some 0) with
  accessFlags := 49
  interfaces := #[]
  cf := some (fileOf pool7 1 #[.nestMembers #[98]] #[{ accessFlags := 2, nameIndex := 7, descriptorIndex := 8, attributes := #[] }, { accessFlags := 9, nameIndex := 124, descriptorIndex := 125, attributes := #[] }] 49 4 #[] #[{ accessFlags := 25, nameIndex := 354, descriptorIndex := 339, attributes := #[] }, { accessFlags := 25, nameIndex := 358, descriptorIndex := 339, attributes := #[] }, { accessFlags := 25, nameIndex := 361, descriptorIndex := 339, attributes := #[] }, { accessFlags := 26, nameIndex := 364, descriptorIndex := 339, attributes := #[] }, { accessFlags := 26, nameIndex := 365, descriptorIndex := 339, attributes := #[] }, { accessFlags := 26, nameIndex := 172, descriptorIndex := 173, attributes := #[] }, { accessFlags := 26, nameIndex := 176, descriptorIndex := 173, attributes := #[] }, { accessFlags := 8, nameIndex := 344, descriptorIndex := 339, attributes := #[] }, { accessFlags := 8, nameIndex := 338, descriptorIndex := 339, attributes := #[] }, { accessFlags := 4120, nameIndex := 245, descriptorIndex := 246, attributes := #[] }])
  fields := #[{ name := "E", type := .double, accessFlags := 25, slot := 0, constantValue := 0 }, { name := "PI", type := .double, accessFlags := 25, slot := 1, constantValue := 0 }, { name := "TAU", type := .double, accessFlags := 25, slot := 2, constantValue := 0 }, { name := "DEGREES_TO_RADIANS", type := .double, accessFlags := 26, slot := 3, constantValue := 0 }, { name := "RADIANS_TO_DEGREES", type := .double, accessFlags := 26, slot := 4, constantValue := 0 }, { name := "negativeZeroFloatBits", type := .long, accessFlags := 26, slot := 5, constantValue := 0 }, { name := "negativeZeroDoubleBits", type := .long, accessFlags := 26, slot := 6, constantValue := 0 }, { name := "twoToTheDoubleScaleUp", type := .double, accessFlags := 8, slot := 7, constantValue := 0 }, { name := "twoToTheDoubleScaleDown", type := .double, accessFlags := 8, slot := 8, constantValue := 0 }, { name := "$assertionsDisabled", type := .boolean, accessFlags := 4120, slot := 9, constantValue := 0 }]
  methods := #[k7m0, k7m1]
  instanceTypes := #[]
  staticTypes := #[.double, .double, .double, .double, .double, .long, .long, .double, .double, .boolean]
  resolved := Array.replicate 460 none
  statics := none }

def pool8 : Array CpInfo := pool [(2, .class_ 4), (1, u "java/lang/Object"), (0, u "<init>"), (0, u "()V"), (1, .class_ 10), (1, u "java/lang/Number"), (2, .class_ 14), (0, u "java/io/Serializable"), (0, u "serialVersionUID"), (0, u "J")] 20

def k8m0 : Method := { name := "<init>", desc := "()V", sig := { parameters := [], returnType := none }, accessFlags := 1, code := none }
/-- java/lang/Number -/
def k8 : Class := { plain "java/lang/Number" (some 0) with
  accessFlags := 1057
  interfaces := #[4]
  cf := some (fileOf pool8 8 #[] #[{ accessFlags := 1, nameIndex := 5, descriptorIndex := 6, attributes := #[] }] 1057 2 #[13] #[{ accessFlags := 26, nameIndex := 15, descriptorIndex := 16, attributes := #[] }])
  fields := #[{ name := "serialVersionUID", type := .long, accessFlags := 26, slot := 0, constantValue := 0 }]
  methods := #[k8m0]
  instanceTypes := #[]
  staticTypes := #[.long]
  resolved := Array.replicate 37 none
  statics := none }

def pool9 : Array CpInfo := pool [(1, .class_ 2), (0, u "java/lang/constant/ConstantDesc"), (0, .class_ 4), (0, u "java/lang/Object")] 32

/-- java/lang/constant/ConstantDesc -/
def k9 : Class := { plain "java/lang/constant/ConstantDesc" (some 0) with
  accessFlags := 1537
  interfaces := #[]
  cf := some (fileOf pool9 1 #[] #[] 1537 3 #[] #[])
  fields := #[]
  methods := #[]
  instanceTypes := #[]
  staticTypes := #[]
  resolved := Array.replicate 37 none
  statics := none }

def pool10 : Array CpInfo := pool [(1, .class_ 2), (0, u "java/lang/Long"), (15, .class_ 20), (1, u "java/lang/Integer"), (79, u "numberOfLeadingZeros"), (0, u "(J)I"), (133, .class_ 237), (1, u "java/lang/Long$LongCache"), (33, .class_ 272), (0, u "java/lang/Number"), (2, u "value"), (0, u "J"), (31, .methodref 18 309), (0, .nameAndType 100 310), (0, u "(I)I"), (50, u "TYPE"), (0, u "Ljava/lang/Class;"), (0, .class_ 364), (0, u "java/lang/Comparable"), (0, .class_ 366), (0, u "java/lang/constant/Constable"), (0, .class_ 368), (0, u "java/lang/constant/ConstantDesc"), (0, u "MIN_VALUE"), (1, u "MAX_VALUE"), (4, u "SIZE"), (0, u "I"), (1, u "BYTES"), (1, u "serialVersionUID")] 142

def k10c0 : Code := { maxStack := 3, maxLocals := 3, code := jdk_35_method_48_code, exceptionTable := #[], attributes := #[] }
def k10m0 : Method := { name := "numberOfLeadingZeros", desc := "(J)I", sig := { parameters := [.long], returnType := some .int }, accessFlags := 9, code := some k10c0 }
/-- java/lang/Long -/
def k10 : Class := { plain "java/lang/Long" (some 8) with
  accessFlags := 49
  interfaces := #[3, 2, 9]
  cf := some (fileOf pool10 1 #[.nestMembers #[235]] #[{ accessFlags := 9, nameIndex := 100, descriptorIndex := 101, attributes := #[] }] 49 271 #[363, 365, 367] #[{ accessFlags := 25, nameIndex := 369, descriptorIndex := 276, attributes := #[] }, { accessFlags := 25, nameIndex := 371, descriptorIndex := 276, attributes := #[] }, { accessFlags := 25, nameIndex := 361, descriptorIndex := 362, attributes := #[] }, { accessFlags := 18, nameIndex := 275, descriptorIndex := 276, attributes := #[] }, { accessFlags := 25, nameIndex := 376, descriptorIndex := 377, attributes := #[] }, { accessFlags := 25, nameIndex := 379, descriptorIndex := 377, attributes := #[] }, { accessFlags := 26, nameIndex := 381, descriptorIndex := 276, attributes := #[] }])
  fields := #[{ name := "MIN_VALUE", type := .long, accessFlags := 25, slot := 0, constantValue := 0 }, { name := "MAX_VALUE", type := .long, accessFlags := 25, slot := 1, constantValue := 0 }, { name := "TYPE", type := (.object "java/lang/Class"), accessFlags := 25, slot := 2, constantValue := 0 }, { name := "value", type := .long, accessFlags := 18, slot := 0, constantValue := 0 }, { name := "SIZE", type := .int, accessFlags := 25, slot := 3, constantValue := 0 }, { name := "BYTES", type := .int, accessFlags := 25, slot := 4, constantValue := 0 }, { name := "serialVersionUID", type := .long, accessFlags := 26, slot := 5, constantValue := 0 }]
  methods := #[k10m0]
  instanceTypes := #[.long]
  staticTypes := #[.long, .long, (.object "java/lang/Class"), .int, .int, .long]
  resolved := Array.replicate 524 none
  statics := none }

def pool11 : Array CpInfo := pool [(1, .class_ 2), (0, u "java/lang/Integer"), (16, u "digits"), (0, u "[C"), (32, u "numberOfLeadingZeros"), (0, u "(I)I"), (30, u "DigitOnes"), (0, u "[B"), (2, u "DigitTens"), (99, .class_ 190), (0, u "java/lang/Integer$IntegerCache"), (3, u "I"), (8, .class_ 204), (0, u "java/lang/Number"), (2, u "value"), (56, .integer 65536), (37, u "TYPE"), (0, u "Ljava/lang/Class;"), (0, .class_ 305), (0, u "java/lang/Comparable"), (0, .class_ 307), (0, u "java/lang/constant/Constable"), (0, .class_ 309), (0, u "java/lang/constant/ConstantDesc"), (0, u "MIN_VALUE"), (1, u "MAX_VALUE"), (3, u "SIZE"), (1, u "BYTES"), (1, u "serialVersionUID"), (0, u "J")] 131

def k11c0 : Code := { maxStack := 3, maxLocals := 2, code := jdk_33_method_47_code, exceptionTable := #[], attributes := #[] }
def k11m0 : Method := { name := "numberOfLeadingZeros", desc := "(I)I", sig := { parameters := [.int], returnType := some .int }, accessFlags := 9, code := some k11c0 }
/-- java/lang/Integer -/
def k11 : Class := { plain "java/lang/Integer" (some 8) with
  accessFlags := 49
  interfaces := #[3, 2, 9]
  cf := some (fileOf pool11 1 #[.nestMembers #[189]] #[{ accessFlags := 9, nameIndex := 53, descriptorIndex := 54, attributes := #[] }] 49 203 #[304, 306, 308] #[{ accessFlags := 25, nameIndex := 310, descriptorIndex := 194, attributes := #[] }, { accessFlags := 25, nameIndex := 312, descriptorIndex := 194, attributes := #[] }, { accessFlags := 25, nameIndex := 302, descriptorIndex := 303, attributes := #[] }, { accessFlags := 24, nameIndex := 19, descriptorIndex := 20, attributes := #[] }, { accessFlags := 24, nameIndex := 89, descriptorIndex := 86, attributes := #[] }, { accessFlags := 24, nameIndex := 85, descriptorIndex := 86, attributes := #[] }, { accessFlags := 18, nameIndex := 207, descriptorIndex := 194, attributes := #[] }, { accessFlags := 25, nameIndex := 316, descriptorIndex := 194, attributes := #[] }, { accessFlags := 25, nameIndex := 318, descriptorIndex := 194, attributes := #[] }, { accessFlags := 26, nameIndex := 320, descriptorIndex := 321, attributes := #[] }])
  fields := #[{ name := "MIN_VALUE", type := .int, accessFlags := 25, slot := 0, constantValue := 0 }, { name := "MAX_VALUE", type := .int, accessFlags := 25, slot := 1, constantValue := 0 }, { name := "TYPE", type := (.object "java/lang/Class"), accessFlags := 25, slot := 2, constantValue := 0 }, { name := "digits", type := (.array .char), accessFlags := 24, slot := 3, constantValue := 0 }, { name := "DigitTens", type := (.array .byte), accessFlags := 24, slot := 4, constantValue := 0 }, { name := "DigitOnes", type := (.array .byte), accessFlags := 24, slot := 5, constantValue := 0 }, { name := "value", type := .int, accessFlags := 18, slot := 0, constantValue := 0 }, { name := "SIZE", type := .int, accessFlags := 25, slot := 6, constantValue := 0 }, { name := "BYTES", type := .int, accessFlags := 25, slot := 7, constantValue := 0 }, { name := "serialVersionUID", type := .long, accessFlags := 26, slot := 8, constantValue := 0 }]
  methods := #[k11m0]
  instanceTypes := #[.int]
  staticTypes := #[.int, .int, (.object "java/lang/Class"), (.array .char), (.array .byte), (.array .byte), .int, .int, .long]
  resolved := Array.replicate 453 none
  statics := none }

def pool12 : Array CpInfo := pool [(1, u "java/lang/Cloneable"), (0, .class_ 1), (0, u "java/lang/Object"), (0, .class_ 3)] 3

/-- java/lang/Cloneable -/
def k12 : Class := { plain "java/lang/Cloneable" (some 0) with
  accessFlags := 1537
  interfaces := #[]
  cf := some (fileOf pool12 2 #[] #[] 1537 4 #[] #[])
  fields := #[]
  methods := #[]
  instanceTypes := #[]
  staticTypes := #[]
  resolved := Array.replicate 8 none
  statics := none }

/-- the primitive byte -/
def k13 : Class := { plain "byte" none with kind := .primitive 'B', accessFlags := 0x411 }
/-- [B -/
def k14 : Class := { plain "[B" (some 0) with kind := .array 13 .byte, interfaces := #[12, 4], accessFlags := 1041 }

/-- the primitive int -/
def k15 : Class := { plain "int" none with kind := .primitive 'I', accessFlags := 0x411 }
/-- [I -/
def k16 : Class := { plain "[I" (some 0) with kind := .array 15 .int, interfaces := #[12, 4], accessFlags := 1041 }

def heap : Heap := #[{ cls := 6, slots := #[.ref 1, .ref 2, .ref 3, .long 0, .double 0, .null], vm := .statics 6 },
  { cls := 6, slots := #[.null, .int 0, .int 0], vm := .none },
  { cls := 6, slots := #[.null, .int 1, .int 0], vm := .none },
  { cls := 6, slots := #[.null, .int 2, .int 0], vm := .none }]
def classes : Array Class := #[k0, k1, k2, k3, k4, k5, k6, k7, k8, k9, k10, k11, k12, k13, k14, k15, k16]
def interned : List (Array UInt16 × Addr) := []
def slotsUsed : Nat := 15
def theMethod : MethodId := ⟨1, 1⟩
def args0 : Array Value := #[.int 2, .long 12345, .int 9]
def aboutOver (below : List Frame) : State where
  vm := { classes := classes, interned := interned.toArray }
  heap := heap
  slotsUsed := slotsUsed
  threads := #[{ frames := .invoking theMethod args0 :: below }]
def below0 : List Frame := [.native { method := ⟨0, 0⟩, args := #[] }]
def about1 : State := aboutOver below0
def p0 : Program := .bare "" "" ""
def e0 : Env := launch0.env 0 0 0
theorem w_frames : about1.frames = Frame.invoking theMethod args0 :: below0 := rfl
set_option maxRecDepth 65536 in
theorem w_args : argsFit about1.vm theMethod args0 = true := by decide +kernel
set_option maxRecDepth 65536 in
theorem w_heap : heapFits about1 = true := by decide +kernel
set_option maxRecDepth 65536 in
theorem w_runnable : about1.curStatus? = some .runnable := by decide +kernel
set_option maxRecDepth 65536 in
theorem w_alone : about1.alone = true := by decide +kernel
set_option maxRecDepth 65536 in
theorem w_named : about1.methodNamed? x = some theMethod := by decide +kernel
set_option maxRecDepth 65536 in
theorem w_hears : about1.hears theMethod below0 = true := by decide +kernel
set_option maxRecDepth 65536 in
theorem w_ripe : about1.ripe theMethod args0 below0 = true := by decide +kernel
theorem w_running : about1.status = .running := rfl
set_option maxRecDepth 65536 in
theorem w_room : about1.hasRoom e0.platform room_1 = true :=
  launch0.hasRoom_least _ room_1 (by decide +kernel) (by decide +kernel) (by decide +kernel) (by decide +kernel) (by decide +kernel) (by decide +kernel)
theorem allAtoms_all (ts : List Jvm.Cond) (a : Array Jvm.Value) (st : Jvm.State) : (allAtoms ts).before a st = ts.all (fun c => c.before a st) := by
  induction ts with
  | nil => rfl
  | cons c t ih =>
    show (Jvm.Cond.and c (allAtoms t)).before a st = _
    rw [Jvm.Cond.before_and, ih, List.all_cons]
def words1 : List Jvm.Cond := Jvm.Cond.code x code maxLocals ret :: tables_1
/-- a 'code' word, met by the world's own term for the bytes: nothing is compared byte by byte -/
theorem code_word {y : MethodName} {bytes : ByteArray} {mx : Nat} {rt : Option FieldType} {a : Array Value} {s : State} {m : MethodId} {meth : Method} {c : Code} (h1 : s.methodNamed? y = some m) (h2 : s.vm.method? m = some meth) (h3 : meth.code = some c) (h4 : c.code = bytes)
    (h5 : (c.maxLocals == mx && c.exceptionTable.isEmpty && decide (c.maxStack ≤ mostOperands) && decide (meth.sig.returnType = rt) && !meth.locks && decide (parseMethodDescriptor y.desc = some meth.sig)) = true) : (Jvm.Cond.code y bytes mx rt).before a s = true := by
  simp only [Bool.and_eq_true, beq_iff_eq, Bool.not_eq_true', decide_eq_true_eq] at h5
  obtain ⟨⟨⟨⟨⟨g1, g2⟩, g3⟩, g4⟩, g5⟩, g6⟩ := h5
  simp [Cond.before, Cond.holds, Cond.value, h1, h2, h3, h4, g1, g2, g3, g4, g5, g6]
def isCode : Jvm.Cond → Bool
  | .code _ _ _ _ => true
  | _ => false
theorem all_split {L : List Jvm.Cond} {P : Jvm.Cond → Bool} (h1 : L.all (fun c => isCode c || P c) = true) (h2 : ∀ c ∈ L.filter isCode, P c = true) : L.all P = true := by
  refine List.all_eq_true.mpr fun c hc => ?_
  have h := List.all_eq_true.mp h1 c hc
  rcases Bool.eq_false_or_eq_true (isCode c) with hi | hi
  · exact h2 c (List.mem_filter.mpr ⟨hc, hi⟩)
  · simpa [hi] using h
set_option maxRecDepth 65536 in
theorem w_c0 : (Jvm.Cond.code x code maxLocals ret).before args0 about1 = true := code_word (m := ⟨1, 1⟩) (meth := k1m1) (c := k1c1) (by decide +kernel) rfl rfl rfl (by decide +kernel)
set_option maxRecDepth 65536 in
theorem w_c1 : (Jvm.Cond.code ({ cls := "com/example/splitpoint/splitpoint/placement/BucketFunction", name := "bucketOf", desc := "(JI)I" } : Jvm.MethodName) prog_19_method_6_code (6 : Nat) (Option.some Jvm.ClassFile.FieldType.int)).before args0 about1 = true := code_word (m := ⟨6, 0⟩) (meth := k6m0) (c := k6c0) (by decide +kernel) rfl rfl rfl (by decide +kernel)
set_option maxRecDepth 65536 in
theorem w_c2 : (Jvm.Cond.code ({ cls := "com/example/splitpoint/splitpoint/placement/BucketFunction", name := "checkBucketCount", desc := "(I)V" } : Jvm.MethodName) prog_19_method_7_code (1 : Nat) (Option.none : Option Jvm.ClassFile.FieldType)).before args0 about1 = true := code_word (m := ⟨6, 1⟩) (meth := k6m1) (c := k6c1) (by decide +kernel) rfl rfl rfl (by decide +kernel)
set_option maxRecDepth 65536 in
theorem w_c3 : (Jvm.Cond.code ({ cls := "java/lang/Enum", name := "ordinal", desc := "()I" } : Jvm.MethodName) jdk_37_method_2_code (1 : Nat) (Option.some Jvm.ClassFile.FieldType.int)).before args0 about1 = true := code_word (m := ⟨5, 0⟩) (meth := k5m0) (c := k5c0) (by decide +kernel) rfl rfl rfl (by decide +kernel)
set_option maxRecDepth 65536 in
theorem w_c4 : (Jvm.Cond.code ({ cls := "java/lang/Math", name := "abs", desc := "(J)J" } : Jvm.MethodName) jdk_29_method_61_code (2 : Nat) (Option.some Jvm.ClassFile.FieldType.long)).before args0 about1 = true := code_word (m := ⟨7, 1⟩) (meth := k7m1) (c := k7c1) (by decide +kernel) rfl rfl rfl (by decide +kernel)
set_option maxRecDepth 65536 in
theorem w_c5 : (Jvm.Cond.code ({ cls := "com/example/splitpoint/splitpoint/placement/BucketFunction", name := "jump", desc := "(JI)J" } : Jvm.MethodName) prog_19_method_9_code (9 : Nat) (Option.some Jvm.ClassFile.FieldType.long)).before args0 about1 = true := code_word (m := ⟨6, 3⟩) (meth := k6m3) (c := k6c3) (by decide +kernel) rfl rfl rfl (by decide +kernel)
set_option maxRecDepth 65536 in
theorem w_c6 : (Jvm.Cond.code ({ cls := "com/example/splitpoint/splitpoint/placement/BucketFunction", name := "linear", desc := "(JI)J" } : Jvm.MethodName) prog_19_method_8_code (8 : Nat) (Option.some Jvm.ClassFile.FieldType.long)).before args0 about1 = true := code_word (m := ⟨6, 2⟩) (meth := k6m2) (c := k6c2) (by decide +kernel) rfl rfl rfl (by decide +kernel)
set_option maxRecDepth 65536 in
theorem w_c7 : (Jvm.Cond.code ({ cls := "java/lang/Long", name := "numberOfLeadingZeros", desc := "(J)I" } : Jvm.MethodName) jdk_35_method_48_code (3 : Nat) (Option.some Jvm.ClassFile.FieldType.int)).before args0 about1 = true := code_word (m := ⟨10, 0⟩) (meth := k10m0) (c := k10c0) (by decide +kernel) rfl rfl rfl (by decide +kernel)
set_option maxRecDepth 65536 in
theorem w_c8 : (Jvm.Cond.code ({ cls := "java/lang/Integer", name := "numberOfLeadingZeros", desc := "(I)I" } : Jvm.MethodName) jdk_33_method_47_code (2 : Nat) (Option.some Jvm.ClassFile.FieldType.int)).before args0 about1 = true := code_word (m := ⟨11, 0⟩) (meth := k11m0) (c := k11c0) (by decide +kernel) rfl rfl rfl (by decide +kernel)
def codes1 : List Jvm.Cond := [Jvm.Cond.code x code maxLocals ret, Jvm.Cond.code ({ cls := "com/example/splitpoint/splitpoint/placement/BucketFunction", name := "bucketOf", desc := "(JI)I" } : Jvm.MethodName) prog_19_method_6_code (6 : Nat) (Option.some Jvm.ClassFile.FieldType.int), Jvm.Cond.code ({ cls := "com/example/splitpoint/splitpoint/placement/BucketFunction", name := "checkBucketCount", desc := "(I)V" } : Jvm.MethodName) prog_19_method_7_code (1 : Nat) (Option.none : Option Jvm.ClassFile.FieldType), Jvm.Cond.code ({ cls := "java/lang/Enum", name := "ordinal", desc := "()I" } : Jvm.MethodName) jdk_37_method_2_code (1 : Nat) (Option.some Jvm.ClassFile.FieldType.int), Jvm.Cond.code ({ cls := "java/lang/Math", name := "abs", desc := "(J)J" } : Jvm.MethodName) jdk_29_method_61_code (2 : Nat) (Option.some Jvm.ClassFile.FieldType.long), Jvm.Cond.code ({ cls := "com/example/splitpoint/splitpoint/placement/BucketFunction", name := "jump", desc := "(JI)J" } : Jvm.MethodName) prog_19_method_9_code (9 : Nat) (Option.some Jvm.ClassFile.FieldType.long), Jvm.Cond.code ({ cls := "com/example/splitpoint/splitpoint/placement/BucketFunction", name := "linear", desc := "(JI)J" } : Jvm.MethodName) prog_19_method_8_code (8 : Nat) (Option.some Jvm.ClassFile.FieldType.long), Jvm.Cond.code ({ cls := "java/lang/Long", name := "numberOfLeadingZeros", desc := "(J)I" } : Jvm.MethodName) jdk_35_method_48_code (3 : Nat) (Option.some Jvm.ClassFile.FieldType.int), Jvm.Cond.code ({ cls := "java/lang/Integer", name := "numberOfLeadingZeros", desc := "(I)I" } : Jvm.MethodName) jdk_33_method_47_code (2 : Nat) (Option.some Jvm.ClassFile.FieldType.int)]
set_option maxRecDepth 65536 in
theorem codes_eq : words1.filter isCode = codes1 := rfl
theorem w_codes : ∀ c ∈ words1.filter isCode, c.before args0 about1 = true := by
  rw [codes_eq]
  intro c hc
  simp only [codes1, List.mem_cons, List.not_mem_nil, or_false] at hc
  rcases hc with rfl | rfl | rfl | rfl | rfl | rfl | rfl | rfl | rfl
  · exact w_c0
  · exact w_c1
  · exact w_c2
  · exact w_c3
  · exact w_c4
  · exact w_c5
  · exact w_c6
  · exact w_c7
  · exact w_c8
set_option maxRecDepth 65536 in
theorem w_t1 : (words1.take 24).all (fun c => isCode c || c.before args0 about1) = true := by decide +kernel
set_option maxRecDepth 65536 in
theorem w_t2 : (words1.drop 24).all (fun c => isCode c || c.before args0 about1) = true := by decide +kernel
theorem w_tables : (allAtoms (Jvm.Cond.code x code maxLocals ret :: tables_1)).before args0 about1 = true := by
  rw [allAtoms_all]
  show words1.all (fun c => c.before args0 about1) = true
  refine all_split ?_ w_codes
  rw [← List.take_append_drop 24 words1, List.all_append, w_t1, w_t2]
  rfl
set_option maxRecDepth 65536 in
theorem w_case : (Jvm.Cond.and given_1 narrow_1).before args0 about1 = true := by decide +kernel
theorem w_applies : (headSpec (Jvm.Cond.code x code maxLocals ret :: tables_1) room_1).applies x e0.platform about1 = true :=
  (Spec.applies_iff w_frames).mpr ⟨w_running, w_runnable, w_alone, w_named, w_hears, w_ripe, w_room, w_tables⟩
theorem atStart : AtStart classFile x code maxLocals ret World_1 tables_1 room_1 Calls_1 rest_1 Pre_1 launch0 p0 e0 about1 theMethod args0 below0 :=
  ⟨lists_1, trivial, launch0.admits_env _ _ _, launch0.least_env, fairChoices_fair.cas, fairChoices_fair.clock, w_frames, w_args, w_heap, w_applies, trivial, trivial, w_case⟩
end start1
theorem witness_1 : WitnessClaimed_1 := ⟨start1.p0, start1.e0, start1.about1, start1.theMethod, start1.args0, start1.below0, start1.atStart⟩
end Jvm.Pilot.@@N@@
