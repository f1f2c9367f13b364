import JvmDerived
import JvmDerived.Pilot.@@N@@Statement
import JvmDerived.Pilot.@@N@@Code
set_option linter.unusedVariables false
set_option linter.unusedSimpArgs false
namespace Jvm.Pilot.@@N@@
open Jvm Jvm.ClassFile Sem Op Lib Jvm.Free Jvm.Stand Jvm.LawKit Jvm.RoadKit Bundle Jvm.Pilot.@@N@@.Jvm.D
/-- from S on the run ends as Q says -/
def own_Go (p : Program) (e : Env) (below : List Frame) (s : State) (Q : Option Value → Heap → List Loc → Prop) (k n : Nat) (S : State) : Prop :=
  ∃ s₂ o, Steps p.tables e below S s₂ ∧ s₂.status = .running ∧ Ended s₂ below o ∧ ∃ v L, o = .returned v ∧ Q v s₂.heap L ∧ FrameEnd s o s₂ L k n
/-- the goal, as a predicate that is closed under steps -/
theorem own_abs (p : Program) (e : Env) (below : List Frame) (s : State) (Q : Option Value → Heap → List Loc → Prop) (k n : Nat) :
    ∃ G : State → Prop, (∀ {S : State}, G S → own_Go p e below s Q k n S) ∧ (∀ {S S' : State}, (∀ t, Steps p.tables e below S' t → Steps p.tables e below S t) → G S' → G S) ∧ (∀ {S : State}, own_Go p e below s Q k n S → G S) :=
  ⟨own_Go p e below s Q k n, fun h => h, fun h g => by obtain ⟨s2, o, h1, r⟩ := g; exact ⟨s2, o, h _ h1, r⟩, fun h => h⟩
section OwnEnd
variable {p : Program} {l : Launch} {e : Env} {R : Room} {s : State} {m : MethodId} {args : Array Value} {below : List Frame} {meth : Method} {c : Code} {T : State} {locs : List Loc} {cells slots : Nat} {Q : Option Value → Heap → List Loc → Prop} {k n : Nat}
theorem own_goRet (X : Stand p l e R s m args below meth c T locs cells slots) (hx : p.tables.exec = Jvm.exec) {pc : Nat} {Ls : Array Slot} {w : Value} {t : FieldType} {i : Instr} {rest : List Value} (hret : meth.sig.returnType = some t) (hn : narrow t w = w)
    (hi : (i = .ireturn ∧ (t = .int ∨ t = .boolean ∨ t = .byte ∨ t = .char ∨ t = .short) ∧ ∃ z, w = .int z) ∨ (i = .lreturn ∧ t = .long ∧ ∃ z, w = .long z) ∨ (i = .dreturn ∧ t = .double ∧ ∃ z, w = .double z) ∨ (i = .freturn ∧ t = .float ∧ ∃ z, w = .float z) ∨ (i = .areturn ∧ t.isReference = true ∧ w.isRef = true))
    (hd : decode c.code pc = .ok (i, 1)) (hlk : meth.locks = false) (hQ : Q (some w) T.heap locs) (hk : cells ≤ k) (hn' : slots ≤ n) : own_Go p e below s Q k n (T.setTop (mkF m pc Ls (w :: rest))) := by
  obtain ⟨fs, hr, hrun, hended, hW, hsame⟩ := X.leave (v := some w) (fun h => by rw [hret] at h; cases h) hlk
  exact ⟨_, _, retOut X hx hret hn hi hd hr, hrun, hended, _, _, rfl, hQ, ⟨_, rfl⟩, hW, hsame.mono hk hn'⟩
theorem own_goVoid (X : Stand p l e R s m args below meth c T locs cells slots) (hx : p.tables.exec = Jvm.exec) {pc : Nat} {Ls : Array Slot} (hret : meth.sig.returnType = none)
    (hd : decode c.code pc = .ok (.return_, 1)) (hlk : meth.locks = false) (hQ : Q none T.heap locs) (hk : cells ≤ k) (hn' : slots ≤ n) : own_Go p e below s Q k n (T.setTop (mkF m pc Ls [])) := by
  obtain ⟨fs, hr, hrun, hended, hW, hsame⟩ := X.leave (v := none) (fun _ => rfl) hlk
  exact ⟨_, _, X.returnOut hx hret hd hr, hrun, hended, _, _, rfl, hQ, ⟨_, rfl⟩, hW, hsame.mono hk hn'⟩
end OwnEnd
section OwnStep
variable {p : Program} {e : Env} {below : List Frame} {G : State → Prop} {T : State} {m : MethodId} {c : Code} {pc pc' : Nat} {Ls Lt : Array Slot} {st : List Value}
/-- G is closed under steps -/
abbrev OwnCl (p : Program) (e : Env) (below : List Frame) (G : State → Prop) : Prop := ∀ {S S' : State}, (∀ t, Steps p.tables e below S' t → Steps p.tables e below S t) → G S' → G S
theorem o_iloadN (hst : OwnCl p e below G) (h : At T m c below) (hx : p.tables.exec = Jvm.exec) {n : Fin 4} {v : Int32} (hd : decode c.code pc = .ok (.iload_n n, 1)) (hp : pc + 1 = pc') (hl : Ls[n.val]? = some (.val (.int v))) (k : G (T.setTop (mkF m pc' Ls (.int v :: st)))) : G (T.setTop (mkF m pc Ls (st))) := by
  subst hp; exact hst (fun _ kt => XS.iloadN h hx rfl hd hl kt) k
theorem o_iload (hst : OwnCl p e below G) (h : At T m c below) (hx : p.tables.exec = Jvm.exec) {n : Nat} {v : Int32} (hd : decode c.code pc = .ok (.iload n, 2)) (hp : pc + 2 = pc') (hl : Ls[n]? = some (.val (.int v))) (k : G (T.setTop (mkF m pc' Ls (.int v :: st)))) : G (T.setTop (mkF m pc Ls (st))) := by
  subst hp; exact hst (fun _ kt => XS.iload h hx rfl hd hl kt) k
theorem o_lloadN (hst : OwnCl p e below G) (h : At T m c below) (hx : p.tables.exec = Jvm.exec) {n : Fin 4} {v : Int64} (hd : decode c.code pc = .ok (.lload_n n, 1)) (hp : pc + 1 = pc') (hl : Ls[n.val]? = some (.val (.long v))) (k : G (T.setTop (mkF m pc' Ls (.long v :: st)))) : G (T.setTop (mkF m pc Ls (st))) := by
  subst hp; exact hst (fun _ kt => XS.lloadN h hx rfl hd hl kt) k
theorem o_lload (hst : OwnCl p e below G) (h : At T m c below) (hx : p.tables.exec = Jvm.exec) {n : Nat} {v : Int64} (hd : decode c.code pc = .ok (.lload n, 2)) (hp : pc + 2 = pc') (hl : Ls[n]? = some (.val (.long v))) (k : G (T.setTop (mkF m pc' Ls (.long v :: st)))) : G (T.setTop (mkF m pc Ls (st))) := by
  subst hp; exact hst (fun _ kt => XS.lload h hx rfl hd hl kt) k
theorem o_floadN (hst : OwnCl p e below G) (h : At T m c below) (hx : p.tables.exec = Jvm.exec) {n : Fin 4} {v : UInt32} (hd : decode c.code pc = .ok (.fload_n n, 1)) (hp : pc + 1 = pc') (hl : Ls[n.val]? = some (.val (.float v))) (k : G (T.setTop (mkF m pc' Ls (.float v :: st)))) : G (T.setTop (mkF m pc Ls (st))) := by
  subst hp; exact hst (fun _ kt => XS.floadN h hx rfl hd hl kt) k
theorem o_fload (hst : OwnCl p e below G) (h : At T m c below) (hx : p.tables.exec = Jvm.exec) {n : Nat} {v : UInt32} (hd : decode c.code pc = .ok (.fload n, 2)) (hp : pc + 2 = pc') (hl : Ls[n]? = some (.val (.float v))) (k : G (T.setTop (mkF m pc' Ls (.float v :: st)))) : G (T.setTop (mkF m pc Ls (st))) := by
  subst hp; exact hst (fun _ kt => XS.fload h hx rfl hd hl kt) k
theorem o_aloadN (hst : OwnCl p e below G) (h : At T m c below) (hx : p.tables.exec = Jvm.exec) {n : Fin 4} {v : Value} (hd : decode c.code pc = .ok (.aload_n n, 1)) (hp : pc + 1 = pc') (hl : Ls[n.val]? = some (.val v)) (hv : v.isRef = true) (k : G (T.setTop (mkF m pc' Ls (v :: st)))) : G (T.setTop (mkF m pc Ls (st))) := by
  subst hp; exact hst (fun _ kt => XS.aloadN h hx rfl hd hl hv kt) k
theorem o_aload (hst : OwnCl p e below G) (h : At T m c below) (hx : p.tables.exec = Jvm.exec) {n : Nat} {v : Value} (hd : decode c.code pc = .ok (.aload n, 2)) (hp : pc + 2 = pc') (hl : Ls[n]? = some (.val v)) (hv : v.isRef = true) (k : G (T.setTop (mkF m pc' Ls (v :: st)))) : G (T.setTop (mkF m pc Ls (st))) := by
  subst hp; exact hst (fun _ kt => XS.aload h hx rfl hd hl hv kt) k
theorem o_istoreN (hst : OwnCl p e below G) (h : At T m c below) (hx : p.tables.exec = Jvm.exec) {n : Fin 4} {v : Int32} (hd : decode c.code pc = .ok (.istore_n n, 1)) (hp : pc + 1 = pc') (hl : storeLocals Ls n.val (.int v) = some Lt) (k : G (T.setTop (mkF m pc' Lt (st)))) : G (T.setTop (mkF m pc Ls (.int v :: st))) := by
  subst hp; exact hst (fun _ kt => XS.istoreN h hx rfl hd rfl hl kt) k
theorem o_istore (hst : OwnCl p e below G) (h : At T m c below) (hx : p.tables.exec = Jvm.exec) {n : Nat} {v : Int32} (hd : decode c.code pc = .ok (.istore n, 2)) (hp : pc + 2 = pc') (hl : storeLocals Ls n (.int v) = some Lt) (k : G (T.setTop (mkF m pc' Lt (st)))) : G (T.setTop (mkF m pc Ls (.int v :: st))) := by
  subst hp; exact hst (fun _ kt => XS.istore h hx rfl hd rfl hl kt) k
theorem o_lstoreN (hst : OwnCl p e below G) (h : At T m c below) (hx : p.tables.exec = Jvm.exec) {n : Fin 4} {v : Int64} (hd : decode c.code pc = .ok (.lstore_n n, 1)) (hp : pc + 1 = pc') (hl : storeLocals Ls n.val (.long v) = some Lt) (k : G (T.setTop (mkF m pc' Lt (st)))) : G (T.setTop (mkF m pc Ls (.long v :: st))) := by
  subst hp; exact hst (fun _ kt => XS.lstoreN h hx rfl hd rfl hl kt) k
theorem o_lstore (hst : OwnCl p e below G) (h : At T m c below) (hx : p.tables.exec = Jvm.exec) {n : Nat} {v : Int64} (hd : decode c.code pc = .ok (.lstore n, 2)) (hp : pc + 2 = pc') (hl : storeLocals Ls n (.long v) = some Lt) (k : G (T.setTop (mkF m pc' Lt (st)))) : G (T.setTop (mkF m pc Ls (.long v :: st))) := by
  subst hp; exact hst (fun _ kt => XS.lstore h hx rfl hd rfl hl kt) k
theorem o_astoreN (hst : OwnCl p e below G) (h : At T m c below) (hx : p.tables.exec = Jvm.exec) {n : Fin 4} {v : Value} (hd : decode c.code pc = .ok (.astore_n n, 1)) (hp : pc + 1 = pc') (hv : v.isRef = true) (hl : storeLocals Ls n.val v = some Lt) (k : G (T.setTop (mkF m pc' Lt (st)))) : G (T.setTop (mkF m pc Ls (v :: st))) := by
  subst hp; exact hst (fun _ kt => XS.astoreN h hx rfl hd rfl hv hl kt) k
theorem o_astore (hst : OwnCl p e below G) (h : At T m c below) (hx : p.tables.exec = Jvm.exec) {n : Nat} {v : Value} (hd : decode c.code pc = .ok (.astore n, 2)) (hp : pc + 2 = pc') (hv : v.isRef = true) (hl : storeLocals Ls n v = some Lt) (k : G (T.setTop (mkF m pc' Lt (st)))) : G (T.setTop (mkF m pc Ls (v :: st))) := by
  subst hp; exact hst (fun _ kt => XS.astore h hx rfl hd rfl hv hl kt) k
theorem o_iconst (hst : OwnCl p e below G) (h : At T m c below) (hx : p.tables.exec = Jvm.exec) {i : Int} {z : Int32} (hd : decode c.code pc = .ok (.iconst i, 1)) (hp : pc + 1 = pc') (hz : Int32.ofInt i = z) (k : G (T.setTop (mkF m pc' Ls (.int z :: st)))) : G (T.setTop (mkF m pc Ls (st))) := by
  subst hp hz; exact hst (fun _ kt => XS.iconst h hx rfl hd kt) k
theorem o_bipush (hst : OwnCl p e below G) (h : At T m c below) (hx : p.tables.exec = Jvm.exec) {i : Int} {z : Int32} (hd : decode c.code pc = .ok (.bipush i, 2)) (hp : pc + 2 = pc') (hz : (Int8.ofInt i).toInt32 = z) (k : G (T.setTop (mkF m pc' Ls (.int z :: st)))) : G (T.setTop (mkF m pc Ls (st))) := by
  subst hp hz; exact hst (fun _ kt => XS.bipush h hx rfl hd kt) k
theorem o_sipush (hst : OwnCl p e below G) (h : At T m c below) (hx : p.tables.exec = Jvm.exec) {i : Int} {z : Int32} (hd : decode c.code pc = .ok (.sipush i, 3)) (hp : pc + 3 = pc') (hz : (Int16.ofInt i).toInt32 = z) (k : G (T.setTop (mkF m pc' Ls (.int z :: st)))) : G (T.setTop (mkF m pc Ls (st))) := by
  subst hp hz; exact hst (fun _ kt => XS.sipush h hx rfl hd kt) k
theorem o_lconst (hst : OwnCl p e below G) (h : At T m c below) (hx : p.tables.exec = Jvm.exec) {i : Fin 2} {z : Int64} (hd : decode c.code pc = .ok (.lconst i, 1)) (hp : pc + 1 = pc') (hz : Int64.ofNat i = z) (k : G (T.setTop (mkF m pc' Ls (.long z :: st)))) : G (T.setTop (mkF m pc Ls (st))) := by
  subst hp hz; exact hst (fun _ kt => XS.lconst h hx rfl hd kt) k
theorem o_aconstNull (hst : OwnCl p e below G) (h : At T m c below) (hx : p.tables.exec = Jvm.exec)  (hd : decode c.code pc = .ok (.aconst_null, 1)) (hp : pc + 1 = pc') (k : G (T.setTop (mkF m pc' Ls (.null :: st)))) : G (T.setTop (mkF m pc Ls (st))) := by
  subst hp; exact hst (fun _ kt => XS.aconstNull h hx rfl hd kt) k
theorem o_iadd (hst : OwnCl p e below G) (h : At T m c below) (hx : p.tables.exec = Jvm.exec) {x y : Int32} (hd : decode c.code pc = .ok (.iadd, 1)) (hp : pc + 1 = pc') (k : G (T.setTop (mkF m pc' Ls (.int (x + y) :: st)))) : G (T.setTop (mkF m pc Ls (.int y :: .int x :: st))) := by
  subst hp; exact hst (fun _ kt => XS.iadd h hx rfl hd rfl kt) k
theorem o_ladd (hst : OwnCl p e below G) (h : At T m c below) (hx : p.tables.exec = Jvm.exec) {x y : Int64} (hd : decode c.code pc = .ok (.ladd, 1)) (hp : pc + 1 = pc') (k : G (T.setTop (mkF m pc' Ls (.long (x + y) :: st)))) : G (T.setTop (mkF m pc Ls (.long y :: .long x :: st))) := by
  subst hp; exact hst (fun _ kt => XS.ladd h hx rfl hd rfl kt) k
theorem o_isub (hst : OwnCl p e below G) (h : At T m c below) (hx : p.tables.exec = Jvm.exec) {x y : Int32} (hd : decode c.code pc = .ok (.isub, 1)) (hp : pc + 1 = pc') (k : G (T.setTop (mkF m pc' Ls (.int (x - y) :: st)))) : G (T.setTop (mkF m pc Ls (.int y :: .int x :: st))) := by
  subst hp; exact hst (fun _ kt => XS.isub h hx rfl hd rfl kt) k
theorem o_lsub (hst : OwnCl p e below G) (h : At T m c below) (hx : p.tables.exec = Jvm.exec) {x y : Int64} (hd : decode c.code pc = .ok (.lsub, 1)) (hp : pc + 1 = pc') (k : G (T.setTop (mkF m pc' Ls (.long (x - y) :: st)))) : G (T.setTop (mkF m pc Ls (.long y :: .long x :: st))) := by
  subst hp; exact hst (fun _ kt => XS.lsub h hx rfl hd rfl kt) k
theorem o_imul (hst : OwnCl p e below G) (h : At T m c below) (hx : p.tables.exec = Jvm.exec) {x y : Int32} (hd : decode c.code pc = .ok (.imul, 1)) (hp : pc + 1 = pc') (k : G (T.setTop (mkF m pc' Ls (.int (x * y) :: st)))) : G (T.setTop (mkF m pc Ls (.int y :: .int x :: st))) := by
  subst hp; exact hst (fun _ kt => XS.imul h hx rfl hd rfl kt) k
theorem o_lmul (hst : OwnCl p e below G) (h : At T m c below) (hx : p.tables.exec = Jvm.exec) {x y : Int64} (hd : decode c.code pc = .ok (.lmul, 1)) (hp : pc + 1 = pc') (k : G (T.setTop (mkF m pc' Ls (.long (x * y) :: st)))) : G (T.setTop (mkF m pc Ls (.long y :: .long x :: st))) := by
  subst hp; exact hst (fun _ kt => XS.lmul h hx rfl hd rfl kt) k
theorem o_iand (hst : OwnCl p e below G) (h : At T m c below) (hx : p.tables.exec = Jvm.exec) {x y : Int32} (hd : decode c.code pc = .ok (.iand, 1)) (hp : pc + 1 = pc') (k : G (T.setTop (mkF m pc' Ls (.int (x &&& y) :: st)))) : G (T.setTop (mkF m pc Ls (.int y :: .int x :: st))) := by
  subst hp; exact hst (fun _ kt => XS.iand h hx rfl hd rfl kt) k
theorem o_land (hst : OwnCl p e below G) (h : At T m c below) (hx : p.tables.exec = Jvm.exec) {x y : Int64} (hd : decode c.code pc = .ok (.land, 1)) (hp : pc + 1 = pc') (k : G (T.setTop (mkF m pc' Ls (.long (x &&& y) :: st)))) : G (T.setTop (mkF m pc Ls (.long y :: .long x :: st))) := by
  subst hp; exact hst (fun _ kt => XS.land h hx rfl hd rfl kt) k
theorem o_ior (hst : OwnCl p e below G) (h : At T m c below) (hx : p.tables.exec = Jvm.exec) {x y : Int32} (hd : decode c.code pc = .ok (.ior, 1)) (hp : pc + 1 = pc') (k : G (T.setTop (mkF m pc' Ls (.int (x ||| y) :: st)))) : G (T.setTop (mkF m pc Ls (.int y :: .int x :: st))) := by
  subst hp; exact hst (fun _ kt => XS.ior h hx rfl hd rfl kt) k
theorem o_lor (hst : OwnCl p e below G) (h : At T m c below) (hx : p.tables.exec = Jvm.exec) {x y : Int64} (hd : decode c.code pc = .ok (.lor, 1)) (hp : pc + 1 = pc') (k : G (T.setTop (mkF m pc' Ls (.long (x ||| y) :: st)))) : G (T.setTop (mkF m pc Ls (.long y :: .long x :: st))) := by
  subst hp; exact hst (fun _ kt => XS.lor h hx rfl hd rfl kt) k
theorem o_ixor (hst : OwnCl p e below G) (h : At T m c below) (hx : p.tables.exec = Jvm.exec) {x y : Int32} (hd : decode c.code pc = .ok (.ixor, 1)) (hp : pc + 1 = pc') (k : G (T.setTop (mkF m pc' Ls (.int (x ^^^ y) :: st)))) : G (T.setTop (mkF m pc Ls (.int y :: .int x :: st))) := by
  subst hp; exact hst (fun _ kt => XS.ixor h hx rfl hd rfl kt) k
theorem o_lxor (hst : OwnCl p e below G) (h : At T m c below) (hx : p.tables.exec = Jvm.exec) {x y : Int64} (hd : decode c.code pc = .ok (.lxor, 1)) (hp : pc + 1 = pc') (k : G (T.setTop (mkF m pc' Ls (.long (x ^^^ y) :: st)))) : G (T.setTop (mkF m pc Ls (.long y :: .long x :: st))) := by
  subst hp; exact hst (fun _ kt => XS.lxor h hx rfl hd rfl kt) k
theorem o_ineg (hst : OwnCl p e below G) (h : At T m c below) (hx : p.tables.exec = Jvm.exec) {x : Int32} (hd : decode c.code pc = .ok (.ineg, 1)) (hp : pc + 1 = pc') (k : G (T.setTop (mkF m pc' Ls (.int (-x) :: st)))) : G (T.setTop (mkF m pc Ls (.int x :: st))) := by
  subst hp; exact hst (fun _ kt => XS.ineg h hx rfl hd rfl kt) k
theorem o_lneg (hst : OwnCl p e below G) (h : At T m c below) (hx : p.tables.exec = Jvm.exec) {x : Int64} (hd : decode c.code pc = .ok (.lneg, 1)) (hp : pc + 1 = pc') (k : G (T.setTop (mkF m pc' Ls (.long (-x) :: st)))) : G (T.setTop (mkF m pc Ls (.long x :: st))) := by
  subst hp; exact hst (fun _ kt => XS.lneg h hx rfl hd rfl kt) k
theorem o_i2l (hst : OwnCl p e below G) (h : At T m c below) (hx : p.tables.exec = Jvm.exec) {x : Int32} (hd : decode c.code pc = .ok (.i2l, 1)) (hp : pc + 1 = pc') (k : G (T.setTop (mkF m pc' Ls (.long (x.toInt64) :: st)))) : G (T.setTop (mkF m pc Ls (.int x :: st))) := by
  subst hp; exact hst (fun _ kt => XS.i2l h hx rfl hd rfl kt) k
theorem o_l2i (hst : OwnCl p e below G) (h : At T m c below) (hx : p.tables.exec = Jvm.exec) {x : Int64} (hd : decode c.code pc = .ok (.l2i, 1)) (hp : pc + 1 = pc') (k : G (T.setTop (mkF m pc' Ls (.int (x.toInt32) :: st)))) : G (T.setTop (mkF m pc Ls (.long x :: st))) := by
  subst hp; exact hst (fun _ kt => XS.l2i h hx rfl hd rfl kt) k
theorem o_i2b (hst : OwnCl p e below G) (h : At T m c below) (hx : p.tables.exec = Jvm.exec) {x : Int32} (hd : decode c.code pc = .ok (.i2b, 1)) (hp : pc + 1 = pc') (k : G (T.setTop (mkF m pc' Ls (.int (x.toInt8.toInt32) :: st)))) : G (T.setTop (mkF m pc Ls (.int x :: st))) := by
  subst hp; exact hst (fun _ kt => XS.i2b h hx rfl hd rfl kt) k
theorem o_i2s (hst : OwnCl p e below G) (h : At T m c below) (hx : p.tables.exec = Jvm.exec) {x : Int32} (hd : decode c.code pc = .ok (.i2s, 1)) (hp : pc + 1 = pc') (k : G (T.setTop (mkF m pc' Ls (.int (x.toInt16.toInt32) :: st)))) : G (T.setTop (mkF m pc Ls (.int x :: st))) := by
  subst hp; exact hst (fun _ kt => XS.i2s h hx rfl hd rfl kt) k
theorem o_i2c (hst : OwnCl p e below G) (h : At T m c below) (hx : p.tables.exec = Jvm.exec) {x : Int32} (hd : decode c.code pc = .ok (.i2c, 1)) (hp : pc + 1 = pc') (k : G (T.setTop (mkF m pc' Ls (.int (x.toUInt32.toUInt16.toUInt32.toInt32) :: st)))) : G (T.setTop (mkF m pc Ls (.int x :: st))) := by
  subst hp; exact hst (fun _ kt => XS.i2c h hx rfl hd rfl kt) k
theorem o_ishl (hst : OwnCl p e below G) (h : At T m c below) (hx : p.tables.exec = Jvm.exec) {x : Int32} {y : Int32} (hd : decode c.code pc = .ok (.ishl, 1)) (hp : pc + 1 = pc') (k : G (T.setTop (mkF m pc' Ls (.int (x <<< (y &&& 31)) :: st)))) : G (T.setTop (mkF m pc Ls (.int y :: .int x :: st))) := by
  subst hp; exact hst (fun _ kt => XS.ishl h hx rfl hd rfl kt) k
theorem o_ishr (hst : OwnCl p e below G) (h : At T m c below) (hx : p.tables.exec = Jvm.exec) {x : Int32} {y : Int32} (hd : decode c.code pc = .ok (.ishr, 1)) (hp : pc + 1 = pc') (k : G (T.setTop (mkF m pc' Ls (.int (x >>> (y &&& 31)) :: st)))) : G (T.setTop (mkF m pc Ls (.int y :: .int x :: st))) := by
  subst hp; exact hst (fun _ kt => XS.ishr h hx rfl hd rfl kt) k
theorem o_iushr (hst : OwnCl p e below G) (h : At T m c below) (hx : p.tables.exec = Jvm.exec) {x : Int32} {y : Int32} (hd : decode c.code pc = .ok (.iushr, 1)) (hp : pc + 1 = pc') (k : G (T.setTop (mkF m pc' Ls (.int ((x.toUInt32 >>> (y &&& 31).toUInt32).toInt32) :: st)))) : G (T.setTop (mkF m pc Ls (.int y :: .int x :: st))) := by
  subst hp; exact hst (fun _ kt => XS.iushr h hx rfl hd rfl kt) k
theorem o_lshl (hst : OwnCl p e below G) (h : At T m c below) (hx : p.tables.exec = Jvm.exec) {x : Int64} {y : Int32} (hd : decode c.code pc = .ok (.lshl, 1)) (hp : pc + 1 = pc') (k : G (T.setTop (mkF m pc' Ls (.long (x <<< (y &&& 0x3f).toInt64) :: st)))) : G (T.setTop (mkF m pc Ls (.int y :: .long x :: st))) := by
  subst hp; exact hst (fun _ kt => XS.lshl h hx rfl hd rfl kt) k
theorem o_lshr (hst : OwnCl p e below G) (h : At T m c below) (hx : p.tables.exec = Jvm.exec) {x : Int64} {y : Int32} (hd : decode c.code pc = .ok (.lshr, 1)) (hp : pc + 1 = pc') (k : G (T.setTop (mkF m pc' Ls (.long (x >>> (y &&& 0x3f).toInt64) :: st)))) : G (T.setTop (mkF m pc Ls (.int y :: .long x :: st))) := by
  subst hp; exact hst (fun _ kt => XS.lshr h hx rfl hd rfl kt) k
theorem o_lushr (hst : OwnCl p e below G) (h : At T m c below) (hx : p.tables.exec = Jvm.exec) {x : Int64} {y : Int32} (hd : decode c.code pc = .ok (.lushr, 1)) (hp : pc + 1 = pc') (k : G (T.setTop (mkF m pc' Ls (.long ((x.toUInt64 >>> (y &&& 0x3f).toInt64.toUInt64).toInt64) :: st)))) : G (T.setTop (mkF m pc Ls (.int y :: .long x :: st))) := by
  subst hp; exact hst (fun _ kt => XS.lushr h hx rfl hd rfl kt) k
theorem o_lcmp (hst : OwnCl p e below G) (h : At T m c below) (hx : p.tables.exec = Jvm.exec) {x y : Int64} (hd : decode c.code pc = .ok (.lcmp, 1)) (hp : pc + 1 = pc') (k : G (T.setTop (mkF m pc' Ls (.int (lcmpW x y) :: st)))) : G (T.setTop (mkF m pc Ls (.long y :: .long x :: st))) := by
  subst hp; exact hst (fun _ kt => XS.lcmp h hx rfl hd rfl kt) k
theorem o_iinc (hst : OwnCl p e below G) (h : At T m c below) (hx : p.tables.exec = Jvm.exec) {n : Nat} {i : Int} {v : Int32} (hd : decode c.code pc = .ok (.iinc n i, 3)) (hp : pc + 3 = pc') (hl : Ls[n]? = some (.val (.int v))) (hs : storeLocals Ls n (.int (v + Int32.ofInt i)) = some Lt) (k : G (T.setTop (mkF m pc' Lt (st)))) : G (T.setTop (mkF m pc Ls (st))) := by
  subst hp; exact hst (fun _ kt => XS.iinc h hx rfl hd hl hs kt) k
theorem o_dup (hst : OwnCl p e below G) (h : At T m c below) (hx : p.tables.exec = Jvm.exec) {v : Value} (hd : decode c.code pc = .ok (.dup, 1)) (hp : pc + 1 = pc') (hc : v.category = 1) (k : G (T.setTop (mkF m pc' Ls (v :: v :: st)))) : G (T.setTop (mkF m pc Ls (v :: st))) := by
  subst hp; exact hst (fun _ kt => XS.dup h hx rfl hd rfl hc kt) k
theorem o_pop (hst : OwnCl p e below G) (h : At T m c below) (hx : p.tables.exec = Jvm.exec) {v : Value} (hd : decode c.code pc = .ok (.pop, 1)) (hp : pc + 1 = pc') (hc : v.category = 1) (k : G (T.setTop (mkF m pc' Ls (st)))) : G (T.setTop (mkF m pc Ls (v :: st))) := by
  subst hp; exact hst (fun _ kt => XS.pop h hx rfl hd rfl hc kt) k
theorem o_goto (hst : OwnCl p e below G) (h : At T m c below) (hx : p.tables.exec = Jvm.exec) {o : Int} (hd : decode c.code pc = .ok (.goto o, 3)) (ho : 0 ≤ (pc : Int) + o) (hp : ((pc : Int) + o).toNat = pc') (k : G (T.setTop (mkF m pc' Ls st))) : G (T.setTop (mkF m pc Ls st)) := hst (fun _ kt => XS.goto h hx rfl rfl hd ho hp kt) k
end OwnStep
abbrev own_JH : String := "com/example/hash_to_host/hashtohost/JumpHash"
section OwnFl
theorem own_qdef (f : FP.Core.Fmt) (A B : Nat) (e : Int) : FP.Core.quantum f A B e = max f.qmin (FP.Core.leading A B + e - ((f.p : Int) - 1)) := rfl
theorem own_rrdef (f : FP.Core.Fmt) (s : Bool) {A : Nat} (B : Nat) (e : Int) (h : ¬ A = 0) : FP.Core.roundRatio f s A B e = FP.Core.settle f s (FP.Core.nearest (A * 2 ^ (e - FP.Core.quantum f A B e).toNat) (B * 2 ^ (FP.Core.quantum f A B e - e).toNat)) (FP.Core.quantum f A B e) := if_neg h
theorem own_settle1 {N : Nat} {q : Int} (h : N < 2 ^ 53) (hq : q ≤ 971) : FP.Core.settle FP.Core.b64 false N q = .fin false N q := by
  have hm : FP.Core.b64.qmax = 971 := by decide
  have e : FP.Core.settle FP.Core.b64 false N q = FP.Core.bound FP.Core.b64 false N q := if_pos h
  have e2 : FP.Core.bound FP.Core.b64 false N q = .fin false N q := if_pos (by rw [hm]; exact hq)
  rw [e, e2]
theorem own_settle2 {N : Nat} {q : Int} (h : ¬ N < 2 ^ 53) (hq : q + 1 ≤ 971) : FP.Core.settle FP.Core.b64 false N q = .fin false (2 ^ 52) (q + 1) := by
  have hm : FP.Core.b64.qmax = 971 := by decide
  have e : FP.Core.settle FP.Core.b64 false N q = FP.Core.bound FP.Core.b64 false (2 ^ 52) (q + 1) := if_neg h
  have e2 : FP.Core.bound FP.Core.b64 false (2 ^ 52) (q + 1) = .fin false (2 ^ 52) (q + 1) := if_pos (by rw [hm]; exact hq)
  rw [e, e2]
/-- a ratio from 1 on, rounded: what is known of its whole part -/
theorem own_rd {A B : Nat} (hA : 0 < A) (hB : 0 < B) (h1 : B ≤ A) (h2 : A < B * 2 ^ 100) :
    ∃ (c : Nat) (q : Int), FP.Core.roundRatio FP.Core.b64 false A B 0 = .fin false c q ∧
      (∀ m : Nat, m ≤ 2 ^ 53 → m * B ≤ A → m ≤ c * 2 ^ q.toNat / 2 ^ (-q).toNat) ∧
      (∀ m : Nat, A < m * B → (∀ L : Nat, B * 2 ^ L ≤ A → L ≤ 51 ∧ B < 2 ^ (53 - L)) → c * 2 ^ q.toNat / 2 ^ (-q).toNat < m) := by
  obtain ⟨l1, l2⟩ := FP.Core.leading_spec hA hB
  have l0 : ¬ FP.Core.Below A B 0 := by
    show ¬ (A * 2 ^ (-(0 : Int)).toNat < B * 2 ^ (0 : Int).toNat)
    have e1 : (-(0 : Int)).toNat = 0 := rfl
    have e2 : (0 : Int).toNat = 0 := rfl
    rw [e1, e2, Nat.pow_zero, Nat.mul_one, Nat.mul_one]; omega
  have l3 : FP.Core.Below A B 100 := by
    show A * 2 ^ (-(100 : Int)).toNat < B * 2 ^ (100 : Int).toNat
    have e1 : (-(100 : Int)).toNat = 0 := rfl
    have e2 : (100 : Int).toNat = 100 := rfl
    rw [e1, e2, Nat.pow_zero, Nat.mul_one]; exact h2
  have hL0 := FP.Core.lt_of_below l0 l2
  have hL1 := FP.Core.lt_of_below l1 l3
  have hq : FP.Core.quantum FP.Core.b64 A B 0 = FP.Core.leading A B - 52 := by
    rw [own_qdef]
    have e : FP.Core.b64.qmin = -1074 := by decide
    have ep : (FP.Core.b64.p : Int) = 53 := rfl
    rw [e, ep]; omega
  have hN := FP.Core.nearest_units_le (f := FP.Core.b64) hA hB 0
  have hr := own_rrdef FP.Core.b64 false B 0 (Nat.pos_iff_ne_zero.mp hA)
  rw [hq] at hN hr
  obtain ⟨n, hn⟩ : ∃ n : Nat, FP.Core.leading A B = n := ⟨(FP.Core.leading A B).toNat, by omega⟩
  rw [hn] at hN hr hL1 l1
  have e1 : (0 - ((n : Int) - 52)).toNat = 52 - n := by omega
  have e2 : ((n : Int) - 52 - 0).toNat = n - 52 := by omega
  have hN : FP.Core.nearest (A * 2 ^ (52 - n)) (B * 2 ^ (n - 52)) ≤ 2 ^ 53 := by
    have z : FP.Core.nearest (A * 2 ^ (0 - ((n : Int) - 52)).toNat) (B * 2 ^ ((n : Int) - 52 - 0).toNat) ≤ 2 ^ 53 := hN
    rw [e1, e2] at z; exact z
  rw [e1, e2] at hr
  have hV : 0 < B * 2 ^ (n - 52) := Nat.mul_pos hB (Nat.two_pow_pos _)
  have lb : ∀ M : Nat, M * (B * 2 ^ (n - 52)) ≤ A * 2 ^ (52 - n) → M ≤ FP.Core.nearest (A * 2 ^ (52 - n)) (B * 2 ^ (n - 52)) := fun M h => FP.Core.nearest_ge hV h
  have sp := (FP.Core.nearest_spec (A * 2 ^ (52 - n)) (B * 2 ^ (n - 52)) hV).2.1
  have hU : B * 2 ^ n ≤ A := by
    have z : ¬ (A * 2 ^ (-(n : Int)).toNat < B * 2 ^ (n : Int).toNat) := l1
    have z1 : (-(n : Int)).toNat = 0 := by omega
    have z2 : (n : Int).toNat = n := by omega
    rw [z1, z2, Nat.pow_zero, Nat.mul_one] at z; omega
  obtain ⟨N, hNe⟩ : ∃ N, FP.Core.nearest (A * 2 ^ (52 - n)) (B * 2 ^ (n - 52)) = N := ⟨_, rfl⟩
  rw [hNe] at hr hN lb sp
  have LB : ∀ m : Nat, m ≤ 2 ^ 53 → m * B ≤ A → m ≤ N * 2 ^ (n - 52) / 2 ^ (52 - n) := by
    intro m hm hmB
    by_cases c : n ≤ 52
    · have z : n - 52 = 0 := by omega
      have lb' := lb (m * 2 ^ (52 - n))
      rw [z, Nat.pow_zero, Nat.mul_one] at lb'
      rw [z, Nat.pow_zero, Nat.mul_one, Nat.le_div_iff_mul_le (Nat.two_pow_pos _)]
      refine lb' ?_
      calc m * 2 ^ (52 - n) * B = m * B * 2 ^ (52 - n) := by ac_rfl
        _ ≤ A * 2 ^ (52 - n) := Nat.mul_le_mul_right _ hmB
    · have z : 52 - n = 0 := by omega
      have lb' := lb (2 ^ 52)
      rw [z, Nat.pow_zero, Nat.mul_one] at lb'
      rw [z, Nat.pow_zero, Nat.div_one]
      have g : 2 ^ 52 ≤ N := by
        refine lb' ?_
        have e : 2 ^ 52 * (B * 2 ^ (n - 52)) = B * 2 ^ n := by
          rw [show n = 52 + (n - 52) by omega, Nat.pow_add, show 52 + (n - 52) - 52 = n - 52 by omega]; ac_rfl
        rw [e]; exact hU
      have g2 : 2 ≤ 2 ^ (n - 52) := by
        rw [show n - 52 = 1 + (n - 53) by omega, Nat.pow_add]
        have := Nat.two_pow_pos (n - 53); omega
      have g3 := Nat.mul_le_mul g g2
      omega
  have UB : ∀ m : Nat, A < m * B → (∀ L : Nat, B * 2 ^ L ≤ A → L ≤ 51 ∧ B < 2 ^ (53 - L)) → N * 2 ^ (n - 52) / 2 ^ (52 - n) < m := by
    intro m hm hc
    obtain ⟨c1, c2⟩ := hc n hU
    have z : n - 52 = 0 := by omega
    rw [z, Nat.pow_zero, Nat.mul_one] at sp
    rw [z, Nat.pow_zero, Nat.mul_one, Nat.div_lt_iff_lt_mul (Nat.two_pow_pos _)]
    refine Nat.lt_of_not_le fun hge => ?_
    rw [show 53 - n = (52 - n) + 1 by omega, Nat.pow_succ] at c2
    obtain ⟨P, hP⟩ : ∃ P, 2 ^ (52 - n) = P := ⟨_, rfl⟩
    rw [hP] at sp c2 hge
    have s1 : (A + 1) * P ≤ m * B * P := Nat.mul_le_mul_right _ hm
    have s2 : m * P * B ≤ N * B := Nat.mul_le_mul_right _ hge
    have s3 : m * B * P = m * P * B := by ac_rfl
    have s4 : (A + 1) * P = A * P + P := Nat.succ_mul A P
    have s5 : 2 * N * B = 2 * (N * B) := Nat.mul_assoc _ _ _
    omega
  by_cases hc : N < 2 ^ 53
  · refine ⟨N, (n : Int) - 52, hr.trans (own_settle1 hc (by omega)), ?_⟩
    have e3 : ((n : Int) - 52).toNat = n - 52 := by omega
    have e4 : (-((n : Int) - 52)).toNat = 52 - n := by omega
    rw [e3, e4]; exact ⟨LB, UB⟩
  · refine ⟨2 ^ 52, (n : Int) - 52 + 1, hr.trans (own_settle2 hc (by omega)), ?_⟩
    have hN2 : N = 2 ^ 53 := by omega
    have e5 : 2 ^ 52 * 2 ^ ((n : Int) - 52 + 1).toNat / 2 ^ (-((n : Int) - 52 + 1)).toNat = N * 2 ^ (n - 52) / 2 ^ (52 - n) := by
      rw [hN2]
      by_cases c : n ≤ 51
      · have e3 : ((n : Int) - 52 + 1).toNat = 0 := by omega
        have e4 : (-((n : Int) - 52 + 1)).toNat = 51 - n := by omega
        have e6 : n - 52 = 0 := by omega
        have e7 : 2 ^ (52 - n) = 2 ^ (51 - n) * 2 := by rw [show 52 - n = (51 - n) + 1 by omega, Nat.pow_succ]
        have e8 : (2 : Nat) ^ 53 = 2 ^ 52 * 2 := by decide
        rw [e3, e4, e6, e7, e8, Nat.pow_zero, Nat.mul_one, Nat.mul_one]
        exact (Nat.mul_div_mul_right _ _ (by decide)).symm
      · have e3 : ((n : Int) - 52 + 1).toNat = (n - 52) + 1 := by omega
        have e4 : (-((n : Int) - 52 + 1)).toNat = 0 := by omega
        have e6 : 52 - n = 0 := by omega
        have e7 : 2 ^ ((n - 52) + 1) = 2 ^ (n - 52) * 2 := Nat.pow_succ 2 (n - 52)
        have e8 : (2 : Nat) ^ 53 = 2 ^ 52 * 2 := by decide
        have e9 : 2 ^ 52 * (2 ^ (n - 52) * 2) = 2 ^ 52 * 2 * 2 ^ (n - 52) := by ac_rfl
        rw [e3, e4, e6, e7, e8, e9]
    rw [e5]; exact ⟨LB, UB⟩
theorem own_quot {c d : Nat} {q r : Int} (hd : ¬ d = 0) : FP.Core.quotient FP.Core.b64 (.fin false c q) (.fin false d r) = FP.Core.roundRatio FP.Core.b64 false c d (q - r) := if_neg hd
/-- a long from 1 to 2^31 as a double -/
theorem own_l2d {a : Int64} (h1 : 1 ≤ a.toInt) (h2 : a.toInt ≤ 2147483648) : ∃ (c : Nat) (q : Int), FP.Core.val64 (FP.l2d a) = .fin false c q ∧ c * 2 ^ q.toNat = a.toInt.toNat * 2 ^ (-q).toNat ∧ 0 < c ∧ c < 2 ^ 53 ∧ -53 < q ∧ q ≤ 971 ∧ 2 ^ 52 ≤ c := by
  have hW : FP.Core.Whole a.toInt (FP.Core.val64 (FP.l2d a)) := FP.Core.l2d_int (by omega)
  have hF := FP.Core.val64_fits (FP.l2d a)
  cases e : FP.Core.val64 (FP.l2d a) with
  | nan => rw [e] at hW; exact hW.elim
  | inf s => rw [e] at hW; exact hW.elim
  | fin s c q =>
    rw [e] at hW hF
    have hs : s = false := by rw [FP.Core.whole_sign hW (by omega)]; exact decide_eq_false (by omega)
    subst hs
    have hn := FP.Core.whole_natAbs hW
    rw [show a.toInt.natAbs = a.toInt.toNat by omega] at hn
    obtain ⟨f1, f2, f3, f4⟩ := hF
    have f1 : c < 2 ^ 53 := f1
    have eq1 : FP.Core.b64.qmin = -1074 := by decide
    have eq2 : FP.Core.b64.qmax = 971 := by decide
    have eq3 : FP.Core.b64.tails = 2 ^ 52 := by decide
    rw [eq1] at f2 f4
    rw [eq2] at f3
    rw [eq3] at f4
    have ha : 1 ≤ a.toInt.toNat := by omega
    have hc0 : 0 < c := by
      refine Nat.pos_of_ne_zero fun z => ?_
      rw [z, Nat.zero_mul] at hn
      have := Nat.mul_pos ha (Nat.two_pow_pos (-q).toNat)
      omega
    have hq : -53 < q := by
      refine Int.lt_of_not_ge fun z => ?_
      have z1 : q.toNat = 0 := by omega
      rw [z1, Nat.pow_zero, Nat.mul_one] at hn
      have z2 : 2 ^ 53 ≤ 2 ^ (-q).toNat := Nat.pow_le_pow_right (by decide) (by omega)
      have z3 := Nat.mul_le_mul ha z2
      omega
    refine ⟨c, q, rfl, hn, hc0, f1, hq, f3, ?_⟩
    rcases f4 with f4 | f4
    · omega
    · exact f4
theorem own_nn {x : UInt64} {c : Nat} {q : Int} (h : FP.Core.val64 x = .fin false c q) : Jvm.Free.Fl.NoNaN64 x := by
  refine Jvm.Free.Fl.noNaN64_no.mpr ?_
  cases e : FP.Core.dIsNaN x with
  | false => rfl
  | true => rw [FP.Core.dIsNaN_iff, h] at e; cases e
theorem own_c31 : FP.Core.val64 (4746794007248502784 : UInt64) = .fin false (2 ^ 52) (-21) := by decide +kernel
theorem own_d2l {x : UInt64} {c : Nat} {q : Int} (h : FP.Core.val64 x = .fin false c q) : (FP.d2l x).toInt = min 9223372036854775807 ((c * 2 ^ q.toNat / 2 ^ (-q).toNat : Nat) : Int) := by
  have e : FP.d2l x = Int64.ofInt (FP.Core.toInt (-2 ^ 63) (2 ^ 63 - 1) (FP.Core.val64 x)) := rfl
  rw [e, h]
  obtain ⟨T, hT⟩ : ∃ T : Int, ((c * 2 ^ q.toNat / 2 ^ (-q).toNat : Nat) : Int) = T := ⟨_, rfl⟩
  have hT0 : 0 ≤ T := by rw [← hT]; exact Int.natCast_nonneg _
  have e2 : FP.Core.toInt (-2 ^ 63) (2 ^ 63 - 1) (.fin false c q) = max (-2 ^ 63) (min (2 ^ 63 - 1) T) := by rw [← hT]; rfl
  have z : ((2 : Int) ^ 63 - 1) = 9223372036854775807 := by decide
  have hM0 : 0 ≤ min 9223372036854775807 T := Int.le_min.mpr ⟨by decide, hT0⟩
  have hM1 : min 9223372036854775807 T ≤ 9223372036854775807 := Int.min_le_left _ _
  rw [e2, z, hT, Int.max_eq_right (Int.le_trans (by decide) hM0)]
  exact Int64.toInt_ofInt_of_le (Int.le_trans (by decide) hM0) (Int.lt_of_le_of_lt hM1 (by decide))
end OwnFl
/-- the next place of a jump -/
def own_st (x : Int64) : Int64 := (x * (2862933555777941757 : Int64)) + (1 : Int64)
def own_s (x : Int64) : Int64 := ((x.toUInt64 >>> ((33 : Int32) &&& 0x3f).toInt64.toUInt64).toInt64) + (1 : Int64)
theorem own_s_rng (x : Int64) : 1 ≤ (own_s x).toInt ∧ (own_s x).toInt ≤ 2147483648 := by
  have h1 := c_lushr x (33 : Int32) 33 (by decide) (by decide)
  simp only [Nat.reducePow] at h1
  have h2 := c_ladd ((x.toUInt64 >>> ((33 : Int32) &&& 0x3f).toInt64.toUInt64).toInt64) (1 : Int64)
  have h3 := Int64.le_toInt (own_s x)
  have h4 := Int64.toInt_lt (own_s x)
  have e1 : (1 : Int64).toInt = 1 := rfl
  unfold own_s at *
  omega
theorem own_inc {b : Int64} (h0 : 0 ≤ b.toInt) (h1 : b.toInt < 2147483648) : (b + (1 : Int64)).toInt = b.toInt + 1 := by
  have h2 := c_ladd b (1 : Int64)
  have h3 := Int64.le_toInt (b + (1 : Int64))
  have h4 := Int64.toInt_lt (b + (1 : Int64))
  have e1 : (1 : Int64).toInt = 1 := rfl
  omega
/-- 2^31 / z is far enough from the next whole number -/
theorem own_cond31 {z : Nat} (hzp : 0 < z) : ∀ L : Nat, z * 2 ^ L ≤ 2147483648 → L ≤ 51 ∧ z < 2 ^ (53 - L) := by
  intro L hL
  have g1 : L ≤ 31 := by
    refine Nat.le_of_not_lt fun c => ?_
    have g2 : 2 ^ 32 ≤ 2 ^ L := Nat.pow_le_pow_right (by decide) c
    have g3 := Nat.mul_le_mul hzp g2
    have g4 : (2 : Nat) ^ 32 = 4294967296 := by decide
    omega
  refine ⟨by omega, ?_⟩
  have g6 : 2 ^ 22 * 2 ^ (31 - L) = 2 ^ (53 - L) := by rw [← Nat.pow_add]; congr 1; omega
  have g7 : z ≤ 2 ^ (31 - L) := by
    have g8 : 2 ^ (31 - L) * 2 ^ L = 2147483648 := by rw [← Nat.pow_add, show 31 - L + L = 31 by omega]
    rw [← g8] at hL
    exact Nat.le_of_mul_le_mul_right hL (Nat.two_pow_pos L)
  have g9 := Nat.two_pow_pos (31 - L)
  rw [← g6]
  have g10 : (2 : Nat) ^ 22 = 4194304 := by decide
  rw [g10]; omega
def own_nx (b s : Int64) : Int64 := FP.d2l (FP.ddiv (FP.l2d (b + (1 : Int64))) (FP.ddiv (FP.l2d s) (4746794007248502784 : UInt64)))
theorem own_nxv {b s : Int64} (b0 : 0 ≤ b.toInt) (b1 : b.toInt < 2147483648) (s1 : 1 ≤ s.toInt) (s2 : s.toInt ≤ 2147483648) :
    Jvm.Free.Fl.NoNaN64 (FP.ddiv (FP.l2d s) (4746794007248502784 : UInt64)) ∧ FP.Core.val64 (FP.ddiv (FP.l2d (b + (1 : Int64))) (FP.ddiv (FP.l2d s) (4746794007248502784 : UInt64))) = FP.Core.roundRatio FP.Core.b64 false ((b.toInt.toNat + 1) * 2 ^ 31) s.toInt.toNat 0 := by
  have hb := own_inc b0 b1
  obtain ⟨c, q, e, hn, hc, hc1, hq, hq1, hc2⟩ := own_l2d s1 s2
  obtain ⟨c0, q0, e0, hn0, hc0, -, -, -, -⟩ := own_l2d (a := b + (1 : Int64)) (by omega) (by omega)
  have E1 : FP.Core.val64 (FP.ddiv (FP.l2d s) (4746794007248502784 : UInt64)) = .fin false c (q - 31) := by
    have z : FP.Core.val64 (FP.ddiv (FP.l2d s) (4746794007248502784 : UInt64)) = FP.Core.quotient FP.Core.b64 (FP.Core.val64 (FP.l2d s)) (FP.Core.val64 (4746794007248502784 : UInt64)) := FP.Core.val64_ddiv _ _
    rw [z, e, own_c31, own_quot (d := 2 ^ 52) (by decide)]
    have ft : FP.Core.fits FP.Core.b64 (.fin false c (q - 31)) := by
      have eq1 : FP.Core.b64.qmin = -1074 := by decide
      have eq2 : FP.Core.b64.qmax = 971 := by decide
      have eq3 : FP.Core.b64.tails = 2 ^ 52 := by decide
      refine ⟨hc1, ?_, ?_, Or.inr ?_⟩
      · rw [eq1]; omega
      · rw [eq2]; omega
      · rw [eq3]; exact hc2
    refine FP.Core.roundRatio_exact FP.Core.good_b64 (by decide) ft ?_
    have t1 : (q - -21 - (q - 31)).toNat = 52 := by omega
    have t2 : (q - 31 - (q - -21)).toNat = 0 := by omega
    rw [t1, t2, Nat.pow_zero, Nat.mul_one]
  refine ⟨own_nn E1, ?_⟩
  have z : FP.Core.val64 (FP.ddiv (FP.l2d (b + (1 : Int64))) (FP.ddiv (FP.l2d s) (4746794007248502784 : UInt64))) = FP.Core.quotient FP.Core.b64 (FP.Core.val64 (FP.l2d (b + (1 : Int64)))) (FP.Core.val64 (FP.ddiv (FP.l2d s) (4746794007248502784 : UInt64))) := FP.Core.val64_ddiv _ _
  rw [z, e0, E1, own_quot (d := c) (by omega)]
  have hz : 0 < s.toInt.toNat := by omega
  rw [show (b + (1 : Int64)).toInt.toNat = b.toInt.toNat + 1 by omega] at hn0
  refine FP.Core.roundRatio_congr hc hz ?_
  obtain ⟨zz, hzz⟩ : ∃ z, s.toInt.toNat = z := ⟨_, rfl⟩
  obtain ⟨aa, haa⟩ : ∃ z, b.toInt.toNat + 1 = z := ⟨_, rfl⟩
  rw [hzz] at hn hz ⊢
  rw [haa] at hn0 ⊢
  have hpow : q0.toNat + (-q).toNat + (0 - (q0 - (q - 31))).toNat + 31 = (-q0).toNat + q.toNat + (q0 - (q - 31) - 0).toNat := by omega
  refine Nat.eq_of_mul_eq_mul_right (Nat.two_pow_pos (q0.toNat + (-q).toNat)) ?_
  calc c0 * zz * 2 ^ (q0 - (q - 31) - 0).toNat * 2 ^ (q0.toNat + (-q).toNat)
      = (c0 * 2 ^ q0.toNat) * (zz * 2 ^ (-q).toNat) * 2 ^ (q0 - (q - 31) - 0).toNat := by rw [Nat.pow_add]; ac_rfl
    _ = (aa * 2 ^ (-q0).toNat) * (c * 2 ^ q.toNat) * 2 ^ (q0 - (q - 31) - 0).toNat := by rw [hn0, hn]
    _ = aa * c * 2 ^ ((-q0).toNat + q.toNat + (q0 - (q - 31) - 0).toNat) := by rw [Nat.pow_add, Nat.pow_add]; ac_rfl
    _ = aa * c * 2 ^ (q0.toNat + (-q).toNat + (0 - (q0 - (q - 31))).toNat + 31) := by rw [hpow]
    _ = aa * 2 ^ 31 * c * 2 ^ (0 - (q0 - (q - 31))).toNat * 2 ^ (q0.toNat + (-q).toNat) := by rw [Nat.pow_add _ _ 31, Nat.pow_add _ (q0.toNat + (-q).toNat)]; ac_rfl
theorem own_nxs {b s : Int64} (b0 : 0 ≤ b.toInt) (b1 : b.toInt < 2147483648) (s1 : 1 ≤ s.toInt) (s2 : s.toInt ≤ 2147483648) :
    Jvm.Free.Fl.NoNaN64 (FP.ddiv (FP.l2d s) (4746794007248502784 : UInt64)) ∧ Jvm.Free.Fl.NoNaN64 (FP.ddiv (FP.l2d (b + (1 : Int64))) (FP.ddiv (FP.l2d s) (4746794007248502784 : UInt64))) ∧
      (∀ m : Nat, m ≤ 2 ^ 53 → m * s.toInt.toNat ≤ (b.toInt.toNat + 1) * 2 ^ 31 → (m : Int) ≤ (own_nx b s).toInt) ∧
      (∀ m : Nat, (b.toInt.toNat + 1) * 2 ^ 31 < m * s.toInt.toNat → (∀ L : Nat, s.toInt.toNat * 2 ^ L ≤ (b.toInt.toNat + 1) * 2 ^ 31 → L ≤ 51 ∧ s.toInt.toNat < 2 ^ (53 - L)) → (own_nx b s).toInt < m) := by
  obtain ⟨n1, ev⟩ := own_nxv b0 b1 s1 s2
  have hz : 1 ≤ s.toInt.toNat := by omega
  have hz2 : s.toInt.toNat ≤ 2147483648 := by omega
  have ha : b.toInt.toNat + 1 ≤ 2147483648 := by omega
  have p1 : (2 : Nat) ^ 31 = 2147483648 := by decide
  have p2 : (2 : Nat) ^ 100 = 1267650600228229401496703205376 := by decide
  obtain ⟨c, q, er, LB, UB⟩ := own_rd (A := (b.toInt.toNat + 1) * 2 ^ 31) (B := s.toInt.toNat) (by omega) hz (by omega) (by omega)
  rw [er] at ev
  have hd := own_d2l ev
  refine ⟨n1, own_nn ev, fun m hm h => ?_, fun m h hc => ?_⟩
  · have z := LB m hm h
    have hm' : m ≤ 9007199254740992 := hm
    show (m : Int) ≤ (FP.d2l _).toInt
    rw [hd]; omega
  · have z := UB m h hc
    show (FP.d2l _).toInt < (m : Int)
    rw [hd]; omega
theorem own_prog {b s : Int64} (b0 : 0 ≤ b.toInt) (b1 : b.toInt < 2147483648) (s1 : 1 ≤ s.toInt) (s2 : s.toInt ≤ 2147483648) : b.toInt + 1 ≤ (own_nx b s).toInt := by
  have p1 : (2 : Nat) ^ 31 = 2147483648 := by decide
  have p2 : (2 : Nat) ^ 53 = 9007199254740992 := by decide
  have h := (own_nxs b0 b1 s1 s2).2.2.1 (b.toInt.toNat + 1) (by omega) (Nat.mul_le_mul_left _ (by omega))
  omega
theorem own_first {s : Int64} (s1 : 1 ≤ s.toInt) (s2 : s.toInt ≤ 2147483648) : own_nx (0 : Int64) s = (2147483648 : Int64) / s := by
  have e0 : (0 : Int64).toInt = 0 := rfl
  have e1 : (2147483648 : Int64).toInt = 2147483648 := by decide
  have hd := (c_ldiv (2147483648 : Int64) s s.toInt rfl (fun z => by rw [z] at s1; exact absurd s1 (by decide))).1 (by omega)
  obtain ⟨z, hz⟩ : ∃ z : Nat, s.toInt = z := ⟨s.toInt.toNat, by omega⟩
  have ez : s.toInt.toNat = z := by omega
  have hzp : 0 < z := by omega
  obtain ⟨-, -, LB, UB⟩ := own_nxs (b := (0 : Int64)) (by omega) (by omega) s1 s2
  have p1 : ((0 : Int).toNat + 1) * 2 ^ 31 = 2147483648 := by decide
  rw [e0, ez, p1] at LB UB
  apply Int64.toInt_inj.mp
  have eD : ((2147483648 : Int) / (z : Int)) = ((2147483648 / z : Nat) : Int) := (Int.natCast_ediv 2147483648 z).symm
  rw [hd, e1, hz, eD]
  have hm := Nat.div_add_mod 2147483648 z
  have hr := Nat.mod_lt 2147483648 hzp
  have hle : 2147483648 / z ≤ 2147483648 := Nat.div_le_self _ _
  have p2 : (2 : Nat) ^ 53 = 9007199254740992 := by decide
  have h1 := LB (2147483648 / z) (by omega) (Nat.div_mul_le_self _ _)
  have h2 := UB (2147483648 / z + 1) (by rw [Nat.succ_mul, Nat.mul_comm]; omega) (own_cond31 hzp)
  omega
theorem own_second {b s : Int64} {n : Nat} (b0 : 0 ≤ b.toInt) (bn : b.toInt < n) (hn : n ≤ 2097152) (s1 : 1 ≤ s.toInt) (s2 : s.toInt ≤ 2147483648) : (n : Int) ≤ (own_nx b s).toInt ↔ n * s.toInt.toNat ≤ (b.toInt.toNat + 1) * 2147483648 := by
  have p1 : (2 : Nat) ^ 31 = 2147483648 := by decide
  have p2 : (2 : Nat) ^ 53 = 9007199254740992 := by decide
  obtain ⟨-, -, LB, UB⟩ := own_nxs (b := b) b0 (by omega) s1 s2
  rw [p1] at LB UB
  constructor
  · intro h
    refine Nat.le_of_not_lt fun c => ?_
    have hz : s.toInt.toNat ≤ 2147483648 := by omega
    have hzp : 1 ≤ s.toInt.toNat := by omega
    have h2 := UB n c (fun L hL => by
      have g1 : L ≤ 20 := by
        refine Nat.le_of_not_lt fun c1 => ?_
        have g2 : 2 ^ 21 ≤ 2 ^ L := Nat.pow_le_pow_right (by decide) c1
        have g3 := Nat.mul_le_mul_left s.toInt.toNat g2
        have g4 : (2 : Nat) ^ 21 = 2097152 := by decide
        have g5 := Nat.mul_le_mul_left s.toInt.toNat hn
        rw [Nat.mul_comm n] at c
        rw [g4] at g3
        omega
      refine ⟨by omega, ?_⟩
      have g2 : 2 ^ 32 ≤ 2 ^ (53 - L) := Nat.pow_le_pow_right (by decide) (by omega)
      have g4 : (2 : Nat) ^ 32 = 4294967296 := by decide
      omega)
    omega
  · intro h
    exact LB n (by omega) h
/-- the loop -/
def own_run : Nat → Int64 → Int64 → Int64 → Int64 → Int64
  | 0, _, b, _, _ => b
  | fu + 1, x, b, j, n => if j < n then own_run fu (own_st x) j (own_nx j (own_s (own_st x))) n else b
theorem own_run_in {fu : Nat} {x b j n : Int64} (h : j < n) : own_run (fu + 1) x b j n = own_run fu (own_st x) j (own_nx j (own_s (own_st x))) n := if_pos h
theorem own_run_out {fu : Nat} {x b j n : Int64} (h : ¬ j < n) : own_run fu x b j n = b := by
  cases fu with
  | zero => rfl
  | succ fu => exact if_neg h
theorem own_step1 {x j n : Int64} (h0 : 0 ≤ j.toInt) (hj : j < n) (hn : n.toInt ≤ 2147483647) : j.toInt + 1 ≤ (own_nx j (own_s (own_st x))).toInt := by
  rw [Int64.lt_iff_toInt_lt] at hj
  exact own_prog h0 (by omega) (own_s_rng _).1 (own_s_rng _).2
theorem own_run_rng : ∀ (fu : Nat) (x b j n : Int64), 0 ≤ j.toInt → n.toInt ≤ 2147483647 → n.toInt - j.toInt ≤ fu → j < n → j.toInt ≤ (own_run fu x b j n).toInt ∧ own_run fu x b j n < n := by
  intro fu
  induction fu with
  | zero => intro x b j n h0 hn hm hj; rw [Int64.lt_iff_toInt_lt] at hj; omega
  | succ fu ih =>
    intro x b j n h0 hn hm hj
    have hp := own_step1 (x := x) h0 hj hn
    rw [own_run_in hj]
    by_cases c : own_nx j (own_s (own_st x)) < n
    · have z := ih (own_st x) j _ n (by omega) hn (by omega) c
      exact ⟨by omega, z.2⟩
    · rw [own_run_out c]; exact ⟨Int.le_refl _, hj⟩
theorem own_run_next : ∀ (fu : Nat) (x b j n n' : Int64), 0 ≤ j.toInt → n'.toInt = n.toInt + 1 → n'.toInt ≤ 2147483647 → own_run fu x b j n' = own_run fu x b j n ∨ own_run fu x b j n' = n := by
  intro fu
  induction fu with
  | zero => intro x b j n n' _ _ _; exact Or.inl rfl
  | succ fu ih =>
    intro x b j n n' h0 he hn
    by_cases c : j < n
    · have cI := Int64.lt_iff_toInt_lt.mp c
      have c' : j < n' := Int64.lt_iff_toInt_lt.mpr (by omega)
      have hp := own_step1 (x := x) h0 c (by omega)
      rw [own_run_in c, own_run_in c']
      exact ih _ _ _ _ _ (by omega) he hn
    · by_cases c' : j < n'
      · have cI := Int64.lt_iff_toInt_lt.mp c'
        have cN : ¬ j.toInt < n.toInt := fun z => c (Int64.lt_iff_toInt_lt.mpr z)
        have ej : j = n := Int64.toInt_inj.mp (by omega)
        have hp := own_step1 (x := x) h0 c' hn
        have hq : ¬ own_nx j (own_s (own_st x)) < n' := fun z => by
          have zI := Int64.lt_iff_toInt_lt.mp z
          omega
        rw [own_run_in c', own_run_out hq]
        exact Or.inr ej
      · rw [own_run_out c, own_run_out c']; exact Or.inl rfl
section OwnLaw
variable {fu : Nat} {key : Int64} {n : Int32}
theorem own_nL (n : Int32) : (n.toInt64).toInt = n.toInt := c_i2l n
theorem own_r0 (hf : 2147483648 ≤ fu) (h1 : 1 ≤ n.toInt) (h2 : n.toInt ≤ 2147483647) : 0 ≤ (own_run fu key (-1 : Int64) (0 : Int64) n.toInt64).toInt ∧ (own_run fu key (-1 : Int64) (0 : Int64) n.toInt64).toInt < n.toInt := by
  have e0 : (0 : Int64).toInt = 0 := rfl
  have eL := own_nL n
  have h := own_run_rng fu key (-1 : Int64) (0 : Int64) n.toInt64 (by omega) (by omega) (by omega) (by rw [Int64.lt_iff_toInt_lt]; omega)
  rw [Int64.lt_iff_toInt_lt] at h
  omega
theorem own_l2i {r : Int64} (h0 : 0 ≤ r.toInt) (h1 : r.toInt ≤ 2147483647) : r.toInt32.toInt = r.toInt := by
  have h := c_l2i r
  have h3 := Int32.le_toInt r.toInt32
  have h4 := Int32.toInt_lt r.toInt32
  omega
end OwnLaw
section OwnLaw
variable {fu : Nat} {key : Int64} {n : Int32}
theorem own_next (hf : 2147483648 ≤ fu) (h1 : 1 ≤ n.toInt) (h2 : n.toInt ≤ 2147483646) : (own_run fu key (-1 : Int64) (0 : Int64) (n + (1 : Int32)).toInt64).toInt32 = (own_run fu key (-1 : Int64) (0 : Int64) n.toInt64).toInt32 ∨ (own_run fu key (-1 : Int64) (0 : Int64) (n + (1 : Int32)).toInt64).toInt32 = n := by
  have e1 : (1 : Int32).toInt = 1 := rfl
  have h3 := c_iadd n (1 : Int32)
  have h4 := Int32.le_toInt (n + (1 : Int32))
  have h5 := Int32.toInt_lt (n + (1 : Int32))
  have hs : (n + (1 : Int32)).toInt = n.toInt + 1 := by omega
  have e0 : (0 : Int64).toInt = 0 := rfl
  have eL := own_nL n
  have eL' := own_nL (n + (1 : Int32))
  rcases own_run_next fu key (-1 : Int64) (0 : Int64) n.toInt64 (n + (1 : Int32)).toInt64 (by omega) (by omega) (by omega) with h | h
  · exact Or.inl (by rw [h])
  · refine Or.inr ?_
    rw [h]
    apply Int32.toInt_inj.mp
    rw [own_l2i (by omega) (by omega)]; exact eL
/-- the first place past 0 -/
theorem own_zero (hf : 2147483648 ≤ fu) (h1 : 1 ≤ n.toInt) (h2 : n.toInt ≤ 2147483646) : (own_run fu key (-1 : Int64) (0 : Int64) n.toInt64).toInt32 = 0 ↔ ¬ (2147483648 : Int64) / own_s (own_st key) < n.toInt64 := by
  have hr := own_r0 (key := key) hf h1 (by omega)
  have el := own_l2i hr.1 (by omega)
  have e0 : (0 : Int64).toInt = 0 := rfl
  have e00 : (0 : Int32).toInt = 0 := rfl
  have eL := own_nL n
  rw [← Int32.toInt_inj, el, e00]
  obtain ⟨f, rfl⟩ : ∃ f, fu = f + 1 := ⟨fu - 1, by omega⟩
  have hj : (0 : Int64) < n.toInt64 := by rw [Int64.lt_iff_toInt_lt]; omega
  have hp := own_step1 (x := key) (j := (0 : Int64)) (by omega) hj (by omega)
  rw [own_run_in hj, ← own_first (own_s_rng _).1 (own_s_rng _).2]
  by_cases c : own_nx (0 : Int64) (own_s (own_st key)) < n.toInt64
  · have z := own_run_rng f (own_st key) (0 : Int64) _ n.toInt64 (by omega) (by omega) (by rw [Int64.lt_iff_toInt_lt] at c; omega) c
    constructor
    · intro h; omega
    · intro h; exact absurd c h
  · rw [own_run_out c]
    exact ⟨fun _ => c, fun _ => rfl⟩
theorem own_shn {n : Int32} {s j1 : Int64} {nn z jn : Nat} (hnn : n.toInt = (nn : Int)) (hz : s.toInt = (z : Int)) (hjn : j1.toInt = (jn : Int)) (h1 : nn ≤ 2097152) (h2 : z ≤ 2147483648) (h3 : jn < 2097152) :
    ¬ ((j1 + (1 : Int64)) <<< ((31 : Int32) &&& 0x3f).toInt64) < n.toInt64 * s ↔ nn * z ≤ (jn + 1) * 2147483648 := by
  have hi := own_inc (b := j1) (by omega) (by omega)
  have hL : ((j1 + (1 : Int64)) <<< ((31 : Int32) &&& 0x3f).toInt64).toInt = ((jn : Int) + 1) * 2147483648 := by
    have hl := c_lshl (j1 + (1 : Int64)) (31 : Int32) 31 (by decide)
    have p : ((2 ^ 31 : Nat) : Int) = 2147483648 := by decide
    rw [p, hi, hjn] at hl
    have b1 := Int64.le_toInt ((j1 + (1 : Int64)) <<< ((31 : Int32) &&& 0x3f).toInt64)
    have b2 := Int64.toInt_lt ((j1 + (1 : Int64)) <<< ((31 : Int32) &&& 0x3f).toInt64)
    clear hi hz hnn hjn h1 h2
    generalize ((j1 + (1 : Int64)) <<< ((31 : Int32) &&& 0x3f).toInt64).toInt = X at *
    omega
  have hM : (n.toInt64 * s).toInt = ((nn * z : Nat) : Int) := by
    have hmu := c_lmul n.toInt64 s
    have bz : nn * z ≤ 2097152 * 2147483648 := Nat.mul_le_mul h1 h2
    rw [own_nL, hnn, hz, ← Int.natCast_mul] at hmu
    have b3 := Int64.le_toInt (n.toInt64 * s)
    have b4 := Int64.toInt_lt (n.toInt64 * s)
    clear hi hz hnn hjn h1 h2 hL h3
    generalize (n.toInt64 * s).toInt = Y at *
    generalize nn * z = P at *
    omega
  rw [Int64.lt_iff_toInt_lt, hL, hM]
  clear hL hM hi hz hnn hjn h1 h2 h3
  generalize nn * z = P
  omega
theorem own_stay (hf : 2147483648 ≤ fu) (h1 : 1 ≤ n.toInt) (h2 : n.toInt ≤ 2097152) (hj1 : (2147483648 : Int64) / own_s (own_st key) < n.toInt64) :
    ((own_run fu key (-1 : Int64) (0 : Int64) n.toInt64).toInt32).toInt64 = (2147483648 : Int64) / own_s (own_st key) ↔ ¬ (((2147483648 : Int64) / own_s (own_st key) + (1 : Int64)) <<< ((31 : Int32) &&& 0x3f).toInt64) < n.toInt64 * own_s (own_st (own_st key)) := by
  have hr := own_r0 (key := key) hf h1 (by omega)
  have el := own_l2i hr.1 (by omega)
  have e0 : (0 : Int64).toInt = 0 := rfl
  have eL := own_nL n
  rw [← Int64.toInt_inj, c_i2l, el]
  clear el hr
  obtain ⟨f, hfe⟩ : ∃ f, fu = f + 1 + 1 := ⟨fu - 2, by omega⟩
  have hff : 2147483646 ≤ f := by omega
  rw [hfe]
  clear hfe hf
  have hj : (0 : Int64) < n.toInt64 := by rw [Int64.lt_iff_toInt_lt, eL, e0]; omega
  have hp := own_step1 (x := key) (j := (0 : Int64)) (by rw [e0]; decide) hj (by rw [eL]; omega)
  have r1 := own_s_rng (own_st key)
  have r2 := own_s_rng (own_st (own_st key))
  rw [own_run_in hj]
  rw [← own_first r1.1 r1.2] at hj1 ⊢
  obtain ⟨j1, hj1e⟩ : ∃ j, own_nx (0 : Int64) (own_s (own_st key)) = j := ⟨_, rfl⟩
  rw [hj1e] at hj1 hp ⊢
  rw [e0] at hp
  clear hj1e e0 r1
  have hj1' := Int64.lt_iff_toInt_lt.mp hj1
  rw [eL] at hj1'
  rw [own_run_in hj1]
  have hp2 := own_step1 (x := own_st key) (j := j1) (by omega) hj1 (by rw [eL]; omega)
  obtain ⟨nn, hnn⟩ : ∃ nn : Nat, n.toInt = nn := ⟨n.toInt.toNat, by omega⟩
  have sec := own_second (b := j1) (s := own_s (own_st (own_st key))) (n := nn) (by omega) (by omega) (by omega) r2.1 r2.2
  have hsh := own_shn (n := n) (s := own_s (own_st (own_st key))) (j1 := j1) (nn := nn) (z := (own_s (own_st (own_st key))).toInt.toNat) (jn := j1.toInt.toNat) hnn (by omega) (by omega) (by omega) (by omega) (by omega)
  rw [hsh, ← sec]
  clear hsh sec r2
  obtain ⟨j2, hj2e⟩ : ∃ j, own_nx j1 (own_s (own_st (own_st key))) = j := ⟨_, rfl⟩
  rw [hj2e] at hp2 ⊢
  clear hj2e
  by_cases c : j2 < n.toInt64
  · have cI := Int64.lt_iff_toInt_lt.mp c
    rw [eL] at cI
    have z := (own_run_rng f (own_st (own_st key)) j1 j2 n.toInt64 (by omega) (by rw [eL]; omega) (by rw [eL]; omega) c).1
    constructor
    · intro h; omega
    · intro h; omega
  · rw [own_run_out c]
    have cN : ¬ j2.toInt < n.toInt := fun z => c (Int64.lt_iff_toInt_lt.mpr (by rw [eL]; exact z))
    exact ⟨fun _ => by omega, fun _ => rfl⟩
end OwnLaw
def own_QI (r : Int32) (h0 : Heap) (n0 : Nat) (v : Option Value) (h : Heap) (L : List Loc) : Prop := v = some (.int r) ∧ Fr n0 L ∧ h = h0
def own_Q0 (n0 : Nat) (v : Option Value) (h : Heap) (L : List Loc) : Prop := v = some (.int (1 : Int32)) ∧ Fr n0 L
theorem own_n1 (x : Int32) : 1 ≤ ((x &&& (2097151 : Int32)) + (1 : Int32)).toInt ∧ ((x &&& (2097151 : Int32)) + (1 : Int32)).toInt ≤ 2147483646 := by
  have h1 := c_mask x 2097151 21 (by decide) (by decide)
  simp only [Nat.reducePow] at h1
  have h2 := c_iadd (x &&& (2097151 : Int32)) (1 : Int32)
  have h3 := Int32.le_toInt ((x &&& (2097151 : Int32)) + (1 : Int32))
  have h4 := Int32.toInt_lt ((x &&& (2097151 : Int32)) + (1 : Int32))
  have e1 : (1 : Int32).toInt = 1 := rfl
  omega
theorem own_n2 (x : Int32) : 1 ≤ (((x &&& (2147483647 : Int32)) % (2147483646 : Int32)) + (1 : Int32)).toInt ∧ (((x &&& (2147483647 : Int32)) % (2147483646 : Int32)) + (1 : Int32)).toInt ≤ 2147483646 := by
  have h1 := c_mask x 2147483647 31 (by decide) (by decide)
  simp only [Nat.reducePow] at h1
  have h0 := (c_irem (x &&& (2147483647 : Int32)) 2147483646 2147483646 (by decide)).1 (by omega)
  have h2 := c_iadd ((x &&& (2147483647 : Int32)) % (2147483646 : Int32)) (1 : Int32)
  have h3 := Int32.le_toInt (((x &&& (2147483647 : Int32)) % (2147483646 : Int32)) + (1 : Int32))
  have h4 := Int32.toInt_lt (((x &&& (2147483647 : Int32)) % (2147483646 : Int32)) + (1 : Int32))
  have e1 : (1 : Int32).toInt = 1 := rfl
  omega
theorem own_w0 {Z : State} {a0 : Array Value} (hw : ∀ d ∈ tables_1, d.before a0 Z = true) : Jvm.Cond.before (Jvm.Cond.constant x.cls (7 : Nat) (2097151 : Int32)) a0 Z = true := hw _ (List.mem_of_getElem? (i := 0) rfl)
theorem own_w1 {Z : State} {a0 : Array Value} (hw : ∀ d ∈ tables_1, d.before a0 Z = true) : Jvm.Cond.before (Jvm.Cond.methodLink x.cls (10 : Nat) ({ cls := own_JH, name := "bucket", desc := "(JI)I" } : Jvm.MethodName)) a0 Z = true := hw _ (List.mem_of_getElem? (i := 1) rfl)
theorem own_w2 {Z : State} {a0 : Array Value} (hw : ∀ d ∈ tables_1, d.before a0 Z = true) : Jvm.Cond.before (Jvm.Cond.static ({ cls := own_JH, name := "bucket", desc := "(JI)I" } : Jvm.MethodName)) a0 Z = true := hw _ (List.mem_of_getElem? (i := 2) rfl)
theorem own_w3 {Z : State} {a0 : Array Value} (hw : ∀ d ∈ tables_1, d.before a0 Z = true) : Jvm.Cond.before (Jvm.Cond.initialized own_JH) a0 Z = true := hw _ (List.mem_of_getElem? (i := 3) rfl)
theorem own_w4 {Z : State} {a0 : Array Value} (hw : ∀ d ∈ tables_1, d.before a0 Z = true) : Jvm.Cond.before (Jvm.Cond.code ({ cls := own_JH, name := "bucket", desc := "(JI)I" } : Jvm.MethodName) prog_9_method_2_code (11 : Nat) (Option.some Jvm.ClassFile.FieldType.int)) a0 Z = true := hw _ (List.mem_of_getElem? (i := 4) rfl)
theorem own_w5 {Z : State} {a0 : Array Value} (hw : ∀ d ∈ tables_1, d.before a0 Z = true) : Jvm.Cond.before (Jvm.Cond.constantLong own_JH (16 : Nat) (-1 : Int64)) a0 Z = true := hw _ (List.mem_of_getElem? (i := 5) rfl)
theorem own_w6 {Z : State} {a0 : Array Value} (hw : ∀ d ∈ tables_1, d.before a0 Z = true) : Jvm.Cond.before (Jvm.Cond.constantLong own_JH (20 : Nat) (2862933555777941757 : Int64)) a0 Z = true := hw _ (List.mem_of_getElem? (i := 6) rfl)
theorem own_w7 {Z : State} {a0 : Array Value} (hw : ∀ d ∈ tables_1, d.before a0 Z = true) : Jvm.Cond.before (Jvm.Cond.constantDouble own_JH (22 : Nat) (4746794007248502784 : UInt64)) a0 Z = true := hw _ (List.mem_of_getElem? (i := 7) rfl)
theorem own_w8 {Z : State} {a0 : Array Value} (hw : ∀ d ∈ tables_1, d.before a0 Z = true) : Jvm.Cond.before (Jvm.Cond.constantLong x.cls (16 : Nat) (2862933555777941757 : Int64)) a0 Z = true := hw _ (List.mem_of_getElem? (i := 8) rfl)
theorem own_w9 {Z : State} {a0 : Array Value} (hw : ∀ d ∈ tables_1, d.before a0 Z = true) : Jvm.Cond.before (Jvm.Cond.constantLong x.cls (18 : Nat) (2147483648 : Int64)) a0 Z = true := hw _ (List.mem_of_getElem? (i := 9) rfl)
theorem own_w10 {Z : State} {a0 : Array Value} (hw : ∀ d ∈ tables_1, d.before a0 Z = true) : Jvm.Cond.before (Jvm.Cond.constant x.cls (20 : Nat) (2097152 : Int32)) a0 Z = true := hw _ (List.mem_of_getElem? (i := 10) rfl)
theorem own_w11 {Z : State} {a0 : Array Value} (hw : ∀ d ∈ tables_1, d.before a0 Z = true) : Jvm.Cond.before (Jvm.Cond.constant x.cls (8 : Nat) (2147483647 : Int32)) a0 Z = true := hw _ (List.mem_of_getElem? (i := 11) rfl)
theorem own_w12 {Z : State} {a0 : Array Value} (hw : ∀ d ∈ tables_1, d.before a0 Z = true) : Jvm.Cond.before (Jvm.Cond.constant x.cls (9 : Nat) (2147483646 : Int32)) a0 Z = true := hw _ (List.mem_of_getElem? (i := 12) rfl)
theorem pd_0 : parseMethodDescriptor "(JI)I" = some ⟨[.long, .int], some .int⟩ := by decide +kernel
theorem dbk_0 : decode prog_9_method_2_code 0 = .ok (.iload_n 2, 1) := by decide +kernel
theorem dbk_1 : decode prog_9_method_2_code 1 = .ok (.iconst 1, 1) := by decide +kernel
theorem dbk_2 : decode prog_9_method_2_code 2 = .ok (.if_icmp .ge 17, 3) := by decide +kernel
theorem dbk_19 : decode prog_9_method_2_code 19 = .ok (.lload_n 0, 1) := by decide +kernel
theorem dbk_20 : decode prog_9_method_2_code 20 = .ok (.lstore_n 3, 1) := by decide +kernel
theorem dbk_21 : decode prog_9_method_2_code 21 = .ok (.ldc2_w 16, 3) := by decide +kernel
theorem dbk_24 : decode prog_9_method_2_code 24 = .ok (.lstore 5, 2) := by decide +kernel
theorem dbk_26 : decode prog_9_method_2_code 26 = .ok (.lconst 0, 1) := by decide +kernel
theorem dbk_27 : decode prog_9_method_2_code 27 = .ok (.lstore 7, 2) := by decide +kernel
theorem dbk_29 : decode prog_9_method_2_code 29 = .ok (.lload 7, 2) := by decide +kernel
theorem dbk_31 : decode prog_9_method_2_code 31 = .ok (.iload_n 2, 1) := by decide +kernel
theorem dbk_32 : decode prog_9_method_2_code 32 = .ok (.i2l, 1) := by decide +kernel
theorem dbk_33 : decode prog_9_method_2_code 33 = .ok (.lcmp, 1) := by decide +kernel
theorem dbk_34 : decode prog_9_method_2_code 34 = .ok (.ifCond .ge 42, 3) := by decide +kernel
theorem dbk_37 : decode prog_9_method_2_code 37 = .ok (.lload 7, 2) := by decide +kernel
theorem dbk_39 : decode prog_9_method_2_code 39 = .ok (.lstore 5, 2) := by decide +kernel
theorem dbk_41 : decode prog_9_method_2_code 41 = .ok (.lload_n 3, 1) := by decide +kernel
theorem dbk_42 : decode prog_9_method_2_code 42 = .ok (.ldc2_w 20, 3) := by decide +kernel
theorem dbk_45 : decode prog_9_method_2_code 45 = .ok (.lmul, 1) := by decide +kernel
theorem dbk_46 : decode prog_9_method_2_code 46 = .ok (.lconst 1, 1) := by decide +kernel
theorem dbk_47 : decode prog_9_method_2_code 47 = .ok (.ladd, 1) := by decide +kernel
theorem dbk_48 : decode prog_9_method_2_code 48 = .ok (.lstore_n 3, 1) := by decide +kernel
theorem dbk_49 : decode prog_9_method_2_code 49 = .ok (.lload_n 3, 1) := by decide +kernel
theorem dbk_50 : decode prog_9_method_2_code 50 = .ok (.bipush 33, 2) := by decide +kernel
theorem dbk_52 : decode prog_9_method_2_code 52 = .ok (.lushr, 1) := by decide +kernel
theorem dbk_53 : decode prog_9_method_2_code 53 = .ok (.lconst 1, 1) := by decide +kernel
theorem dbk_54 : decode prog_9_method_2_code 54 = .ok (.ladd, 1) := by decide +kernel
theorem dbk_55 : decode prog_9_method_2_code 55 = .ok (.l2d, 1) := by decide +kernel
theorem dbk_56 : decode prog_9_method_2_code 56 = .ok (.ldc2_w 22, 3) := by decide +kernel
theorem dbk_59 : decode prog_9_method_2_code 59 = .ok (.ddiv, 1) := by decide +kernel
theorem dbk_60 : decode prog_9_method_2_code 60 = .ok (.dstore 9, 2) := by decide +kernel
theorem dbk_62 : decode prog_9_method_2_code 62 = .ok (.lload 5, 2) := by decide +kernel
theorem dbk_64 : decode prog_9_method_2_code 64 = .ok (.lconst 1, 1) := by decide +kernel
theorem dbk_65 : decode prog_9_method_2_code 65 = .ok (.ladd, 1) := by decide +kernel
theorem dbk_66 : decode prog_9_method_2_code 66 = .ok (.l2d, 1) := by decide +kernel
theorem dbk_67 : decode prog_9_method_2_code 67 = .ok (.dload 9, 2) := by decide +kernel
theorem dbk_69 : decode prog_9_method_2_code 69 = .ok (.ddiv, 1) := by decide +kernel
theorem dbk_70 : decode prog_9_method_2_code 70 = .ok (.d2l, 1) := by decide +kernel
theorem dbk_71 : decode prog_9_method_2_code 71 = .ok (.lstore 7, 2) := by decide +kernel
theorem dbk_73 : decode prog_9_method_2_code 73 = .ok (.goto (-44), 3) := by decide +kernel
theorem dbk_76 : decode prog_9_method_2_code 76 = .ok (.lload 5, 2) := by decide +kernel
theorem dbk_78 : decode prog_9_method_2_code 78 = .ok (.l2i, 1) := by decide +kernel
theorem dbk_79 : decode prog_9_method_2_code 79 = .ok (.ireturn, 1) := by decide +kernel
theorem ef_bk (mI : MethodId) (key : Int64) (nn : Int32) : entryFrame mI #[(.long key), (.int nn)] 11 = mkF mI 0 #[.val (.long key), .second, .val (.int nn), .unset, .unset, .unset, .unset, .unset, .unset, .unset, .unset] [] := by first | (simp [entryFrame, mkF, argsToLocals, Value.category]; done) | rfl
theorem pn_bk : plainName own_JH = true := by first | decide +kernel | (simp [plainName, overriddenIn]; done)
set_option maxRecDepth 65536 in
set_option maxHeartbeats 40000000 in
theorem rmbk (lL : Launch) (Z : State) (a0 : Array Value) (hw : ∀ d ∈ tables_1, d.before a0 Z = true) (ws : List Jvm.Cond) (key : Int64) (nn : Int32) (f0 : Nat) (h0 : Heap) (n0 : Nat) (Z0 : n0 ≤ h0.size) (hn1 : 1 ≤ nn.toInt) (hn2 : nn.toInt ≤ 2147483647) (hf : nn.toInt ≤ f0) :
    MetFree lL (⟨own_JH, "bucket", "(JI)I"⟩ : MethodName) (head1 (Jvm.Cond.code (⟨own_JH, "bucket", "(JI)I"⟩ : MethodName) prog_9_method_2_code 11 (some .int) :: ws) ({ frames := 0, cells := 0, slots := 0, locals := 0 } : Room)) (fun a_ U_ => a_ = #[(.long key), (.int nn)] ∧ Z.Warmed39 U_.vm ∧ U_.heap = h0) (fun _ _ _ _ _ => True) (fun _ U_ o_ W_ => ∃ v_ L_, o_ = .returned v_ ∧ own_QI (own_run f0 key (-1 : Int64) (0 : Int64) nn.toInt64).toInt32 h0 n0 v_ W_.heap L_ ∧ FrameEnd U_ o_ W_ L_ ({ frames := 0, cells := 0, slots := 0, locals := 0 } : Room).cells ({ frames := 0, cells := 0, slots := 0, locals := 0 } : Room).slots) := by
  refine MetFree.of_bodySF (plainFor_of_name pn_bk) hisR ?_
  intro pP eE sS mI args below meth cC s₁ Bd hml0 hP hK
  obtain ⟨rfl, hZ, hh⟩ := hP
  have hx := Bd.exec
  have hby := Bd.bytes
  have hml : cC.maxLocals = 11 := hml0
  have hown : sS.vm.findClass own_JH = some mI.cls := by have z := findClass_of_methodNamed Bd.named; exact z
  have hnm := (name_of_methodNamed Bd.named Bd.method).1
  have X0 : Stand pP lL eE ({ frames := 0, cells := 0, slots := 0, locals := 0 } : Room) sS mI #[(.long key), (.int nn)] below meth cC s₁ [] 0 0 := Stand.of_body Bd
  have e0 : s₁.heap = h0 := by rw [← hh, Bd.state]; rfl
  have N0 := Fr.nil n0
  obtain ⟨G, hG, hst, hend⟩ := own_abs pP eE below sS (own_QI (own_run f0 key (-1 : Int64) (0 : Int64) nn.toInt64).toInt32 h0 n0) ({ frames := 0, cells := 0, slots := 0, locals := 0 } : Room).cells ({ frames := 0, cells := 0, slots := 0, locals := 0 } : Room).slots
  refine hG (S := s₁.setTop (entryFrame mI #[(.long key), (.int nn)] 11)) (hst (fun t_ kt_ => castTop (ef_bk mI key nn) kt_) ?_)
  show G (s₁.setTop (mkF mI 0 #[.val (.long key), .second, .val (.int nn), .unset, .unset, .unset, .unset, .unset, .unset, .unset, .unset] []))
  refine o_iloadN hst X0.here hx (hb hby dbk_0) (pc' := 1) rfl rfl ?_
  refine o_iconst hst X0.here hx (hb hby dbk_1) (pc' := 2) rfl (z := (1 : Int32)) rfl ?_
  have hc2 : ¬ (nn < (1 : Int32)) := by rw [Int32.lt_iff_toInt_lt, show (1 : Int32).toInt = 1 from rfl]; omega
  refine hst (fun _ kt => XS.icmpYes X0.here hx rfl (pc0 := 2) (pc' := 19) rfl (hb hby dbk_2) rfl (flt hc2).2.1 (by decide) (by decide) kt) ?_
  show G (s₁.setTop (mkF mI 19 #[.val (.long key), .second, .val (.int nn), .unset, .unset, .unset, .unset, .unset, .unset, .unset, .unset] []))
  refine o_lloadN hst X0.here hx (hb hby dbk_19) (pc' := 20) rfl rfl ?_
  refine o_lstoreN hst X0.here hx (hb hby dbk_20) (pc' := 21) rfl (Lt := #[.val (.long key), .second, .val (.int nn), .val (.long key), .second, .unset, .unset, .unset, .unset, .unset, .unset]) rfl ?_
  refine hst (X0.ldc2Long hx hown (mvT hZ (own_w5 hw)) (g := (mkF mI 21 #[.val (.long key), .second, .val (.int nn), .val (.long key), .second, .unset, .unset, .unset, .unset, .unset, .unset] [])) rfl (hb hby dbk_21)) ?_
  show G (s₁.setTop (mkF mI 24 #[.val (.long key), .second, .val (.int nn), .val (.long key), .second, .unset, .unset, .unset, .unset, .unset, .unset] [(.long (-1 : Int64))]))
  refine o_lstore hst X0.here hx (hb hby dbk_24) (pc' := 26) rfl (Lt := #[.val (.long key), .second, .val (.int nn), .val (.long key), .second, .val (.long (-1 : Int64)), .second, .unset, .unset, .unset, .unset]) rfl ?_
  refine o_lconst hst X0.here hx (hb hby dbk_26) (pc' := 27) rfl (z := (0 : Int64)) rfl ?_
  refine o_lstore hst X0.here hx (hb hby dbk_27) (pc' := 29) rfl (Lt := #[.val (.long key), .second, .val (.int nn), .val (.long key), .second, .val (.long (-1 : Int64)), .second, .val (.long (0 : Int64)), .second, .unset, .unset]) rfl ?_
  have eL := own_nL nn
  have J29 : ∀ (fu : Nat) (sx : Int64) (sb : Int64) (sj : Int64) (s9 : Slot) (s10 : Slot) (Tj_1 : State) (lj_1 : List Loc) (Xj_1 : Stand pP lL eE ({ frames := 0, cells := 0, slots := 0, locals := 0 } : Room) sS mI #[(.long key), (.int nn)] below meth cC Tj_1 lj_1 0 0) (ej_1 : Tj_1.heap = h0) (Nj_1 : Fr n0 lj_1) (hs9 : (s9 = .unset ∧ s10 = .unset) ∨ ∃ d : UInt64, s9 = .val (.double d) ∧ s10 = .second) (hj0 : 0 ≤ sj.toInt) (hm : (nn.toInt64).toInt - sj.toInt ≤ fu) (he : own_run fu sx sb sj nn.toInt64 = (own_run f0 key (-1 : Int64) (0 : Int64) nn.toInt64)), G (Tj_1.setTop (mkF mI 29 #[.val (.long key), .second, .val (.int nn), .val (.long sx), .second, .val (.long sb), .second, .val (.long sj), .second, s9, s10] [])) := by
    intro fu
    induction fu with
    | zero =>
      intro sx sb sj s9 s10 Tj_1 lj_1 Xj_1 ej_1 Nj_1 hs9 hj0 hm he
      show G (Tj_1.setTop (mkF mI 29 #[.val (.long key), .second, .val (.int nn), .val (.long sx), .second, .val (.long sb), .second, .val (.long sj), .second, s9, s10] []))
      refine o_lload hst Xj_1.here hx (hb hby dbk_29) (pc' := 31) rfl rfl ?_
      refine o_iloadN hst Xj_1.here hx (hb hby dbk_31) (pc' := 32) rfl rfl ?_
      refine o_i2l hst Xj_1.here hx (hb hby dbk_32) (pc' := 33) rfl ?_
      refine o_lcmp hst Xj_1.here hx (hb hby dbk_33) (pc' := 34) rfl ?_
      have hj : ¬ (sj < (nn.toInt64)) := by rw [Int64.lt_iff_toInt_lt]; omega
      refine hst (fun _ kt => XS.ifYes Xj_1.here hx rfl (pc0 := 34) (pc' := 76) rfl (hb hby dbk_34) rfl ((if0 _ _).trans (flt (mt (lw_lt _ _).mp hj)).2.1) (by decide) (by decide) kt) ?_
      show G (Tj_1.setTop (mkF mI 76 #[.val (.long key), .second, .val (.int nn), .val (.long sx), .second, .val (.long sb), .second, .val (.long sj), .second, s9, s10] []))
      refine o_lload hst Xj_1.here hx (hb hby dbk_76) (pc' := 78) rfl rfl ?_
      refine o_l2i hst Xj_1.here hx (hb hby dbk_78) (pc' := 79) rfl ?_
      exact hend (own_goRet Xj_1 hx Bd.returns rfl (Or.inl ⟨rfl, by simp, _, rfl⟩) (hb hby dbk_79) Bd.notSynchronized (by rw [ej_1]; exact ⟨by rw [← he]; rfl, Nj_1, rfl⟩) (by decide) (by decide))
    | succ fu ih =>
      intro sx sb sj s9 s10 Tj_1 lj_1 Xj_1 ej_1 Nj_1 hs9 hj0 hm he
      show G (Tj_1.setTop (mkF mI 29 #[.val (.long key), .second, .val (.int nn), .val (.long sx), .second, .val (.long sb), .second, .val (.long sj), .second, s9, s10] []))
      refine o_lload hst Xj_1.here hx (hb hby dbk_29) (pc' := 31) rfl rfl ?_
      refine o_iloadN hst Xj_1.here hx (hb hby dbk_31) (pc' := 32) rfl rfl ?_
      refine o_i2l hst Xj_1.here hx (hb hby dbk_32) (pc' := 33) rfl ?_
      refine o_lcmp hst Xj_1.here hx (hb hby dbk_33) (pc' := 34) rfl ?_
      by_cases hj : sj < (nn.toInt64)
      ·
        refine hst (fun _ kt => XS.ifNo Xj_1.here hx rfl (hb hby dbk_34) rfl ((if0 _ _).trans (tlt ((lw_lt _ _).mpr hj)).2.1) kt) ?_
        show G (Tj_1.setTop (mkF mI 37 #[.val (.long key), .second, .val (.int nn), .val (.long sx), .second, .val (.long sb), .second, .val (.long sj), .second, s9, s10] []))
        refine o_lload hst Xj_1.here hx (hb hby dbk_37) (pc' := 39) rfl rfl ?_
        refine o_lstore hst Xj_1.here hx (hb hby dbk_39) (pc' := 41) rfl (Lt := #[.val (.long key), .second, .val (.int nn), .val (.long sx), .second, .val (.long sj), .second, .val (.long sj), .second, s9, s10]) rfl ?_
        refine o_lloadN hst Xj_1.here hx (hb hby dbk_41) (pc' := 42) rfl rfl ?_
        refine hst (Xj_1.ldc2Long hx hown (mvT hZ (own_w6 hw)) (g := (mkF mI 42 #[.val (.long key), .second, .val (.int nn), .val (.long sx), .second, .val (.long sj), .second, .val (.long sj), .second, s9, s10] [(.long sx)])) rfl (hb hby dbk_42)) ?_
        show G (Tj_1.setTop (mkF mI 45 #[.val (.long key), .second, .val (.int nn), .val (.long sx), .second, .val (.long sj), .second, .val (.long sj), .second, s9, s10] [(.long (2862933555777941757 : Int64)), (.long sx)]))
        refine o_lmul hst Xj_1.here hx (hb hby dbk_45) (pc' := 46) rfl ?_
        refine o_lconst hst Xj_1.here hx (hb hby dbk_46) (pc' := 47) rfl (z := (1 : Int64)) rfl ?_
        refine o_ladd hst Xj_1.here hx (hb hby dbk_47) (pc' := 48) rfl ?_
        show G (Tj_1.setTop (mkF mI 48 #[.val (.long key), .second, .val (.int nn), .val (.long sx), .second, .val (.long sj), .second, .val (.long sj), .second, s9, s10] [(.long (own_st sx))]))
        refine o_lstoreN hst Xj_1.here hx (hb hby dbk_48) (pc' := 49) rfl (Lt := #[.val (.long key), .second, .val (.int nn), .val (.long (own_st sx)), .second, .val (.long sj), .second, .val (.long sj), .second, s9, s10]) rfl ?_
        refine o_lloadN hst Xj_1.here hx (hb hby dbk_49) (pc' := 50) rfl rfl ?_
        refine o_bipush hst Xj_1.here hx (hb hby dbk_50) (pc' := 52) rfl (z := (33 : Int32)) rfl ?_
        refine o_lushr hst Xj_1.here hx (hb hby dbk_52) (pc' := 53) rfl ?_
        refine o_lconst hst Xj_1.here hx (hb hby dbk_53) (pc' := 54) rfl (z := (1 : Int64)) rfl ?_
        refine o_ladd hst Xj_1.here hx (hb hby dbk_54) (pc' := 55) rfl ?_
        show G (Tj_1.setTop (mkF mI 55 #[.val (.long key), .second, .val (.int nn), .val (.long (own_st sx)), .second, .val (.long sj), .second, .val (.long sj), .second, s9, s10] [(.long (own_s (own_st sx)))]))
        have hr := own_s_rng (own_st sx)
        have hj' := hj
        rw [Int64.lt_iff_toInt_lt] at hj'
        have hp := own_step1 (x := sx) hj0 hj (by omega)
        obtain ⟨nn1, nn2, -, -⟩ := own_nxs (b := sj) (s := own_s (own_st sx)) hj0 (by omega) hr.1 hr.2
        refine hst (fun _ kt => XS.l2dS Xj_1.here hx rfl (hb hby dbk_55) rfl rfl kt) ?_
        show G (Tj_1.setTop (mkF mI 56 #[.val (.long key), .second, .val (.int nn), .val (.long (own_st sx)), .second, .val (.long sj), .second, .val (.long sj), .second, s9, s10] [(.double (FP.l2d (own_s (own_st sx))))]))
        refine hst (Xj_1.ldc2DoubleC hx hown (mvT hZ (own_w7 hw)) (g := (mkF mI 56 #[.val (.long key), .second, .val (.int nn), .val (.long (own_st sx)), .second, .val (.long sj), .second, .val (.long sj), .second, s9, s10] [(.double (FP.l2d (own_s (own_st sx))))])) rfl (hb hby dbk_56)) ?_
        show G (Tj_1.setTop (mkF mI 59 #[.val (.long key), .second, .val (.int nn), .val (.long (own_st sx)), .second, .val (.long sj), .second, .val (.long sj), .second, s9, s10] [(.double (4746794007248502784 : UInt64)), (.double (FP.l2d (own_s (own_st sx))))]))
        refine hst (fun _ kt => XS.ddivS Xj_1.here hx rfl (hb hby dbk_59) rfl nn1 rfl kt) ?_
        show G (Tj_1.setTop (mkF mI 60 #[.val (.long key), .second, .val (.int nn), .val (.long (own_st sx)), .second, .val (.long sj), .second, .val (.long sj), .second, s9, s10] [(.double (FP.ddiv (FP.l2d (own_s (own_st sx))) (4746794007248502784 : UInt64)))]))
        refine hst (fun _ kt => XS.dstore Xj_1.here hx rfl (hb hby dbk_60) rfl (l' := #[.val (.long key), .second, .val (.int nn), .val (.long (own_st sx)), .second, .val (.long sj), .second, .val (.long sj), .second, .val (.double (FP.ddiv (FP.l2d (own_s (own_st sx))) (4746794007248502784 : UInt64))), .second]) (by rcases hs9 with ⟨rfl, rfl⟩ | ⟨d9, rfl, rfl⟩ <;> rfl) kt) ?_
        show G (Tj_1.setTop (mkF mI 62 #[.val (.long key), .second, .val (.int nn), .val (.long (own_st sx)), .second, .val (.long sj), .second, .val (.long sj), .second, .val (.double (FP.ddiv (FP.l2d (own_s (own_st sx))) (4746794007248502784 : UInt64))), .second] []))
        refine o_lload hst Xj_1.here hx (hb hby dbk_62) (pc' := 64) rfl rfl ?_
        refine o_lconst hst Xj_1.here hx (hb hby dbk_64) (pc' := 65) rfl (z := (1 : Int64)) rfl ?_
        refine o_ladd hst Xj_1.here hx (hb hby dbk_65) (pc' := 66) rfl ?_
        refine hst (fun _ kt => XS.l2dS Xj_1.here hx rfl (hb hby dbk_66) rfl rfl kt) ?_
        show G (Tj_1.setTop (mkF mI 67 #[.val (.long key), .second, .val (.int nn), .val (.long (own_st sx)), .second, .val (.long sj), .second, .val (.long sj), .second, .val (.double (FP.ddiv (FP.l2d (own_s (own_st sx))) (4746794007248502784 : UInt64))), .second] [(.double (FP.l2d (sj + (1 : Int64))))]))
        refine hst (fun _ kt => XS.dload Xj_1.here hx rfl (hb hby dbk_67) rfl kt) ?_
        show G (Tj_1.setTop (mkF mI 69 #[.val (.long key), .second, .val (.int nn), .val (.long (own_st sx)), .second, .val (.long sj), .second, .val (.long sj), .second, .val (.double (FP.ddiv (FP.l2d (own_s (own_st sx))) (4746794007248502784 : UInt64))), .second] [(.double (FP.ddiv (FP.l2d (own_s (own_st sx))) (4746794007248502784 : UInt64))), (.double (FP.l2d (sj + (1 : Int64))))]))
        refine hst (fun _ kt => XS.ddivS Xj_1.here hx rfl (hb hby dbk_69) rfl nn2 rfl kt) ?_
        show G (Tj_1.setTop (mkF mI 70 #[.val (.long key), .second, .val (.int nn), .val (.long (own_st sx)), .second, .val (.long sj), .second, .val (.long sj), .second, .val (.double (FP.ddiv (FP.l2d (own_s (own_st sx))) (4746794007248502784 : UInt64))), .second] [(.double (FP.ddiv (FP.l2d (sj + (1 : Int64))) (FP.ddiv (FP.l2d (own_s (own_st sx))) (4746794007248502784 : UInt64))))]))
        refine hst (fun _ kt => XS.d2lS Xj_1.here hx rfl (hb hby dbk_70) rfl rfl kt) ?_
        show G (Tj_1.setTop (mkF mI 71 #[.val (.long key), .second, .val (.int nn), .val (.long (own_st sx)), .second, .val (.long sj), .second, .val (.long sj), .second, .val (.double (FP.ddiv (FP.l2d (own_s (own_st sx))) (4746794007248502784 : UInt64))), .second] [(.long (FP.d2l (FP.ddiv (FP.l2d (sj + (1 : Int64))) (FP.ddiv (FP.l2d (own_s (own_st sx))) (4746794007248502784 : UInt64)))))]))
        show G (Tj_1.setTop (mkF mI 71 #[.val (.long key), .second, .val (.int nn), .val (.long (own_st sx)), .second, .val (.long sj), .second, .val (.long sj), .second, .val (.double (FP.ddiv (FP.l2d (own_s (own_st sx))) (4746794007248502784 : UInt64))), .second] [(.long (own_nx sj (own_s (own_st sx))))]))
        refine o_lstore hst Xj_1.here hx (hb hby dbk_71) (pc' := 73) rfl (Lt := #[.val (.long key), .second, .val (.int nn), .val (.long (own_st sx)), .second, .val (.long sj), .second, .val (.long (own_nx sj (own_s (own_st sx)))), .second, .val (.double (FP.ddiv (FP.l2d (own_s (own_st sx))) (4746794007248502784 : UInt64))), .second]) rfl ?_
        refine o_goto hst Xj_1.here hx (hb hby dbk_73) (by decide) (pc' := 29) (by decide) ?_
        exact ih _ _ _ _ _ Tj_1 _ Xj_1 ej_1 Nj_1 (Or.inr ⟨_, rfl, rfl⟩) (by omega) (by omega) ((own_run_in hj).symm.trans he)
      ·
        refine hst (fun _ kt => XS.ifYes Xj_1.here hx rfl (pc0 := 34) (pc' := 76) rfl (hb hby dbk_34) rfl ((if0 _ _).trans (flt (mt (lw_lt _ _).mp hj)).2.1) (by decide) (by decide) kt) ?_
        show G (Tj_1.setTop (mkF mI 76 #[.val (.long key), .second, .val (.int nn), .val (.long sx), .second, .val (.long sb), .second, .val (.long sj), .second, s9, s10] []))
        refine o_lload hst Xj_1.here hx (hb hby dbk_76) (pc' := 78) rfl rfl ?_
        refine o_l2i hst Xj_1.here hx (hb hby dbk_78) (pc' := 79) rfl ?_
        exact hend (own_goRet Xj_1 hx Bd.returns rfl (Or.inl ⟨rfl, by simp, _, rfl⟩) (hb hby dbk_79) Bd.notSynchronized (by rw [ej_1]; exact ⟨by rw [← he, own_run_out hj], Nj_1, rfl⟩) (by decide) (by decide))
  exact J29 f0 _ _ _ _ _ s₁ _ X0 e0 N0 (Or.inl ⟨rfl, rfl⟩) (by decide) (by rw [eL]; exact Int.le_trans (Int.sub_le_self _ (by decide)) hf) rfl
theorem ef_0 (mI : MethodId) (key : Int64) (xx : Int32) (yy : Int32) : entryFrame mI #[(.long key), (.int xx), (.int yy)] maxLocals = mkF mI 0 #[.val (.long key), .second, .val (.int xx), .val (.int yy), .unset, .unset, .unset, .unset, .unset, .unset, .unset, .unset, .unset, .unset, .unset, .unset, .unset, .unset] [] := by first | (simp [entryFrame, mkF, argsToLocals, Value.category, maxLocals]; done) | rfl
theorem pn_0 : plainName x.cls = true := by first | decide +kernel | (simp [plainName, overriddenIn]; done)
set_option maxRecDepth 65536 in
set_option maxHeartbeats 40000000 in
theorem rm0 (lL : Launch) (Z : State) (a0 : Array Value) (hw : ∀ d ∈ tables_1, d.before a0 Z = true) (ws : List Jvm.Cond) (key : Int64) (xx : Int32) (yy : Int32) (h0 : Heap) (n0 : Nat) (Z0 : n0 ≤ h0.size) :
    MetFree lL x (head1 (Jvm.Cond.code x code maxLocals ret :: ws) room_1) (fun a_ U_ => a_ = #[(.long key), (.int xx), (.int yy)] ∧ Z.Warmed39 U_.vm ∧ U_.heap = h0) (fun _ _ _ _ _ => True) (fun _ U_ o_ W_ => ∃ v_ L_, o_ = .returned v_ ∧ own_Q0 n0 v_ W_.heap L_ ∧ FrameEnd U_ o_ W_ L_ room_1.cells room_1.slots) := by
  refine MetFree.of_bodySF (plainFor_of_name pn_0) hisR ?_
  intro pP eE sS mI args below meth cC s₁ Bd hml0 hP hK
  obtain ⟨rfl, hZ, hh⟩ := hP
  have hx := Bd.exec
  have hby := Bd.bytes
  have hml : cC.maxLocals = 18 := hml0
  have hown : sS.vm.findClass x.cls = some mI.cls := by have z := findClass_of_methodNamed Bd.named; exact z
  have hnm := (name_of_methodNamed Bd.named Bd.method).1
  have X0 : Stand pP lL eE room_1 sS mI #[(.long key), (.int xx), (.int yy)] below meth cC s₁ [] 0 0 := Stand.of_body Bd
  have e0 : s₁.heap = h0 := by rw [← hh, Bd.state]; rfl
  have N0 := Fr.nil n0
  obtain ⟨G, hG, hst, hend⟩ := own_abs pP eE below sS (own_Q0 n0) room_1.cells room_1.slots
  refine hG (S := s₁.setTop (entryFrame mI #[(.long key), (.int xx), (.int yy)] maxLocals)) (hst (fun t_ kt_ => castTop (ef_0 mI key xx yy) kt_) ?_)
  obtain ⟨f0, hf0⟩ : ∃ f0 : Nat, f0 = 2147483648 := ⟨_, rfl⟩
  show G (s₁.setTop (mkF mI 0 #[.val (.long key), .second, .val (.int xx), .val (.int yy), .unset, .unset, .unset, .unset, .unset, .unset, .unset, .unset, .unset, .unset, .unset, .unset, .unset, .unset] []))
  refine o_iloadN hst X0.here hx (hb hby at_0) (pc' := 1) rfl rfl ?_
  refine o_iconst hst X0.here hx (hb hby at_1) (pc' := 2) rfl (z := (1 : Int32)) rfl ?_
  refine o_iand hst X0.here hx (hb hby at_2) (pc' := 3) rfl ?_
  have J28 : ∀ (nn : Int32) (hn1 : 1 ≤ nn.toInt) (hn2 : nn.toInt ≤ 2147483646), G (s₁.setTop (mkF mI 28 #[.val (.long key), .second, .val (.int xx), .val (.int yy), .val (.int nn), .unset, .unset, .unset, .unset, .unset, .unset, .unset, .unset, .unset, .unset, .unset, .unset, .unset] [])) := by
    intro nn hn1 hn2
    show G (s₁.setTop (mkF mI 28 #[.val (.long key), .second, .val (.int xx), .val (.int yy), .val (.int nn), .unset, .unset, .unset, .unset, .unset, .unset, .unset, .unset, .unset, .unset, .unset, .unset, .unset] []))
    have hff : 2147483648 ≤ f0 := Nat.le_of_eq hf0.symm
    have hr0 := own_r0 (key := key) hff hn1 (by omega)
    have hl0 := own_l2i hr0.1 (by omega)
    have hnx := own_next (key := key) hff hn1 hn2
    have hze := own_zero (key := key) hff hn1 hn2
    have hst_ := fun h2 => own_stay (key := key) (n := nn) hff hn1 h2
    have hs1 : (nn + (1 : Int32)).toInt = nn.toInt + 1 := by
      have z1 := c_iadd nn (1 : Int32)
      have z2 := Int32.le_toInt (nn + (1 : Int32))
      have z3 := Int32.toInt_lt (nn + (1 : Int32))
      have z4 : (1 : Int32).toInt = 1 := rfl
      omega
    refine o_lloadN hst X0.here hx (hb hby at_28) (pc' := 29) rfl rfl ?_
    refine o_iload hst X0.here hx (hb hby at_29) (pc' := 31) rfl rfl ?_
    obtain ⟨_, _, ⟨T_1, L_1, k_1, n_1⟩, -, X_1, ⟨Lc_1, hQ_1, l_1, y_1, z_1⟩, st_1⟩ := Jvm.LawKit.callS X0 hx (y := (⟨own_JH, "bucket", "(JI)I"⟩ : MethodName)) hown (mvT hZ (own_w1 hw)) (mvT hZ (own_w2 hw)) (mvT hZ (own_w3 hw)) (mvT hZ (own_w4 hw)) (by decide) (backOf (W := 0) (rmbk lL Z a0 hw [] key nn f0 h0 n0 Z0 hn1 (by omega) (by omega)) hZ (own_w4 hw) (own_w3 hw) (by decide) (by decide)) (g := (mkF mI 31 #[.val (.long key), .second, .val (.int xx), .val (.int yy), .val (.int nn), .unset, .unset, .unset, .unset, .unset, .unset, .unset, .unset, .unset, .unset, .unset, .unset, .unset] [(.int nn), (.long key)])) rfl (by rw [hml]; rfl) (argsL := [(.long key), (.int nn)]) (rest := []) (lenOf pd_0 rfl) rfl (by show 2 * 0 + _ ≤ _; exact Nat.le_of_eq rfl) (hb hby at_31) (fun _ _ => ⟨rfl, e0, (by decide : 0 + 0 ≤ _), (by decide : 0 + 0 ≤ _)⟩)
    dsimp only [Pt.U, Pt.locs, Pt.cells, Pt.slots] at X_1 l_1 y_1 z_1 st_1 hQ_1
    subst l_1 y_1 z_1
    obtain ⟨rfl, N_1q, eh_1⟩ := hQ_1
    have N_1 := Fr.app N0 N_1q
    refine hst (fun _ kt => st_1 _ kt) ?_
    show G (T_1.setTop (mkF mI 34 #[.val (.long key), .second, .val (.int xx), .val (.int yy), .val (.int nn), .unset, .unset, .unset, .unset, .unset, .unset, .unset, .unset, .unset, .unset, .unset, .unset, .unset] [(.int (own_run f0 key (-1 : Int64) (0 : Int64) (nn).toInt64).toInt32)]))
    generalize hB : (own_run f0 key (-1 : Int64) (0 : Int64) nn.toInt64).toInt32 = bb at hl0 hnx hze hst_ ⊢
    show G (T_1.setTop (mkF mI 34 #[.val (.long key), .second, .val (.int xx), .val (.int yy), .val (.int nn), .unset, .unset, .unset, .unset, .unset, .unset, .unset, .unset, .unset, .unset, .unset, .unset, .unset] [(.int bb)]))
    refine o_istore hst X_1.here hx (hb hby at_34) (pc' := 36) rfl (Lt := #[.val (.long key), .second, .val (.int xx), .val (.int yy), .val (.int nn), .val (.int bb), .unset, .unset, .unset, .unset, .unset, .unset, .unset, .unset, .unset, .unset, .unset, .unset]) rfl ?_
    refine o_lloadN hst X_1.here hx (hb hby at_36) (pc' := 37) rfl rfl ?_
    refine o_iload hst X_1.here hx (hb hby at_37) (pc' := 39) rfl rfl ?_
    refine o_iconst hst X_1.here hx (hb hby at_39) (pc' := 40) rfl (z := (1 : Int32)) rfl ?_
    refine o_iadd hst X_1.here hx (hb hby at_40) (pc' := 41) rfl ?_
    obtain ⟨_, _, ⟨T_2, L_2, k_2, n_2⟩, -, X_2, ⟨Lc_2, hQ_2, l_2, y_2, z_2⟩, st_2⟩ := Jvm.LawKit.callS X_1 hx (y := (⟨own_JH, "bucket", "(JI)I"⟩ : MethodName)) hown (mvT hZ (own_w1 hw)) (mvT hZ (own_w2 hw)) (mvT hZ (own_w3 hw)) (mvT hZ (own_w4 hw)) (by decide) (backOf (W := 0) (rmbk lL Z a0 hw [] key (nn + (1 : Int32)) f0 h0 n0 Z0 (by omega) (by omega) (by omega)) hZ (own_w4 hw) (own_w3 hw) (by decide) (by decide)) (g := (mkF mI 41 #[.val (.long key), .second, .val (.int xx), .val (.int yy), .val (.int nn), .val (.int bb), .unset, .unset, .unset, .unset, .unset, .unset, .unset, .unset, .unset, .unset, .unset, .unset] [(.int (nn + (1 : Int32))), (.long key)])) rfl (by rw [hml]; rfl) (argsL := [(.long key), (.int (nn + (1 : Int32)))]) (rest := []) (lenOf pd_0 rfl) rfl (by show 2 * 0 + _ ≤ _; exact Nat.le_of_eq rfl) (hb hby at_41) (fun _ _ => ⟨rfl, eh_1, (by decide : 0 + 0 ≤ _), (by decide : 0 + 0 ≤ _)⟩)
    dsimp only [Pt.U, Pt.locs, Pt.cells, Pt.slots] at X_2 l_2 y_2 z_2 st_2 hQ_2
    subst l_2 y_2 z_2
    obtain ⟨rfl, N_2q, eh_2⟩ := hQ_2
    have N_2 := Fr.app N_1 N_2q
    refine hst (fun _ kt => st_2 _ kt) ?_
    show G (T_2.setTop (mkF mI 44 #[.val (.long key), .second, .val (.int xx), .val (.int yy), .val (.int nn), .val (.int bb), .unset, .unset, .unset, .unset, .unset, .unset, .unset, .unset, .unset, .unset, .unset, .unset] [(.int (own_run f0 key (-1 : Int64) (0 : Int64) (nn + (1 : Int32)).toInt64).toInt32)]))
    generalize (own_run f0 key (-1 : Int64) (0 : Int64) (nn + (1 : Int32)).toInt64).toInt32 = cc at hnx ⊢
    show G (T_2.setTop (mkF mI 44 #[.val (.long key), .second, .val (.int xx), .val (.int yy), .val (.int nn), .val (.int bb), .unset, .unset, .unset, .unset, .unset, .unset, .unset, .unset, .unset, .unset, .unset, .unset] [(.int cc)]))
    refine o_istore hst X_2.here hx (hb hby at_44) (pc' := 46) rfl (Lt := #[.val (.long key), .second, .val (.int xx), .val (.int yy), .val (.int nn), .val (.int bb), .val (.int cc), .unset, .unset, .unset, .unset, .unset, .unset, .unset, .unset, .unset, .unset, .unset]) rfl ?_
    refine o_iload hst X_2.here hx (hb hby at_46) (pc' := 48) rfl rfl ?_
    have hb0 : ¬ (bb < (0 : Int32)) := by rw [Int32.lt_iff_toInt_lt, show (0 : Int32).toInt = 0 from rfl]; omega
    refine hst (fun _ kt => XS.ifNo X_2.here hx rfl (hb hby at_48) rfl ((if0 _ _).trans (flt hb0).1) kt) ?_
    show G (T_2.setTop (mkF mI 51 #[.val (.long key), .second, .val (.int xx), .val (.int yy), .val (.int nn), .val (.int bb), .val (.int cc), .unset, .unset, .unset, .unset, .unset, .unset, .unset, .unset, .unset, .unset, .unset] []))
    refine o_iload hst X_2.here hx (hb hby at_51) (pc' := 53) rfl rfl ?_
    refine o_iload hst X_2.here hx (hb hby at_53) (pc' := 55) rfl rfl ?_
    have hb1 : bb < nn := by rw [Int32.lt_iff_toInt_lt]; omega
    refine hst (fun _ kt => XS.icmpYes X_2.here hx rfl (pc0 := 55) (pc' := 60) rfl (hb hby at_55) rfl (tlt hb1).1 (by decide) (by decide) kt) ?_
    show G (T_2.setTop (mkF mI 60 #[.val (.long key), .second, .val (.int xx), .val (.int yy), .val (.int nn), .val (.int bb), .val (.int cc), .unset, .unset, .unset, .unset, .unset, .unset, .unset, .unset, .unset, .unset, .unset] []))
    refine o_iload hst X_2.here hx (hb hby at_60) (pc' := 62) rfl rfl ?_
    refine o_iload hst X_2.here hx (hb hby at_62) (pc' := 64) rfl rfl ?_
    have J76 : G (T_2.setTop (mkF mI 76 #[.val (.long key), .second, .val (.int xx), .val (.int yy), .val (.int nn), .val (.int bb), .val (.int cc), .unset, .unset, .unset, .unset, .unset, .unset, .unset, .unset, .unset, .unset, .unset] [])) := by
      show G (T_2.setTop (mkF mI 76 #[.val (.long key), .second, .val (.int xx), .val (.int yy), .val (.int nn), .val (.int bb), .val (.int cc), .unset, .unset, .unset, .unset, .unset, .unset, .unset, .unset, .unset, .unset, .unset] []))
      refine o_lloadN hst X_2.here hx (hb hby at_76) (pc' := 77) rfl rfl ?_
      refine hst (X_2.ldc2Long hx hown (mvT hZ (own_w8 hw)) (g := (mkF mI 77 #[.val (.long key), .second, .val (.int xx), .val (.int yy), .val (.int nn), .val (.int bb), .val (.int cc), .unset, .unset, .unset, .unset, .unset, .unset, .unset, .unset, .unset, .unset, .unset] [(.long key)])) rfl (hb hby at_77)) ?_
      show G (T_2.setTop (mkF mI 80 #[.val (.long key), .second, .val (.int xx), .val (.int yy), .val (.int nn), .val (.int bb), .val (.int cc), .unset, .unset, .unset, .unset, .unset, .unset, .unset, .unset, .unset, .unset, .unset] [(.long (2862933555777941757 : Int64)), (.long key)]))
      refine o_lmul hst X_2.here hx (hb hby at_80) (pc' := 81) rfl ?_
      refine o_lconst hst X_2.here hx (hb hby at_81) (pc' := 82) rfl (z := (1 : Int64)) rfl ?_
      refine o_ladd hst X_2.here hx (hb hby at_82) (pc' := 83) rfl ?_
      show G (T_2.setTop (mkF mI 83 #[.val (.long key), .second, .val (.int xx), .val (.int yy), .val (.int nn), .val (.int bb), .val (.int cc), .unset, .unset, .unset, .unset, .unset, .unset, .unset, .unset, .unset, .unset, .unset] [(.long (own_st key))]))
      refine o_lstore hst X_2.here hx (hb hby at_83) (pc' := 85) rfl (Lt := #[.val (.long key), .second, .val (.int xx), .val (.int yy), .val (.int nn), .val (.int bb), .val (.int cc), .val (.long (own_st key)), .second, .unset, .unset, .unset, .unset, .unset, .unset, .unset, .unset, .unset]) rfl ?_
      refine o_lload hst X_2.here hx (hb hby at_85) (pc' := 87) rfl rfl ?_
      refine hst (X_2.ldc2Long hx hown (mvT hZ (own_w8 hw)) (g := (mkF mI 87 #[.val (.long key), .second, .val (.int xx), .val (.int yy), .val (.int nn), .val (.int bb), .val (.int cc), .val (.long (own_st key)), .second, .unset, .unset, .unset, .unset, .unset, .unset, .unset, .unset, .unset] [(.long (own_st key))])) rfl (hb hby at_87)) ?_
      show G (T_2.setTop (mkF mI 90 #[.val (.long key), .second, .val (.int xx), .val (.int yy), .val (.int nn), .val (.int bb), .val (.int cc), .val (.long (own_st key)), .second, .unset, .unset, .unset, .unset, .unset, .unset, .unset, .unset, .unset] [(.long (2862933555777941757 : Int64)), (.long (own_st key))]))
      refine o_lmul hst X_2.here hx (hb hby at_90) (pc' := 91) rfl ?_
      refine o_lconst hst X_2.here hx (hb hby at_91) (pc' := 92) rfl (z := (1 : Int64)) rfl ?_
      refine o_ladd hst X_2.here hx (hb hby at_92) (pc' := 93) rfl ?_
      show G (T_2.setTop (mkF mI 93 #[.val (.long key), .second, .val (.int xx), .val (.int yy), .val (.int nn), .val (.int bb), .val (.int cc), .val (.long (own_st key)), .second, .unset, .unset, .unset, .unset, .unset, .unset, .unset, .unset, .unset] [(.long (own_st (own_st key)))]))
      refine o_lstore hst X_2.here hx (hb hby at_93) (pc' := 95) rfl (Lt := #[.val (.long key), .second, .val (.int xx), .val (.int yy), .val (.int nn), .val (.int bb), .val (.int cc), .val (.long (own_st key)), .second, .val (.long (own_st (own_st key))), .second, .unset, .unset, .unset, .unset, .unset, .unset, .unset]) rfl ?_
      refine o_lload hst X_2.here hx (hb hby at_95) (pc' := 97) rfl rfl ?_
      refine o_bipush hst X_2.here hx (hb hby at_97) (pc' := 99) rfl (z := (33 : Int32)) rfl ?_
      refine o_lushr hst X_2.here hx (hb hby at_99) (pc' := 100) rfl ?_
      refine o_lconst hst X_2.here hx (hb hby at_100) (pc' := 101) rfl (z := (1 : Int64)) rfl ?_
      refine o_ladd hst X_2.here hx (hb hby at_101) (pc' := 102) rfl ?_
      show G (T_2.setTop (mkF mI 102 #[.val (.long key), .second, .val (.int xx), .val (.int yy), .val (.int nn), .val (.int bb), .val (.int cc), .val (.long (own_st key)), .second, .val (.long (own_st (own_st key))), .second, .unset, .unset, .unset, .unset, .unset, .unset, .unset] [(.long (own_s (own_st key)))]))
      refine o_lstore hst X_2.here hx (hb hby at_102) (pc' := 104) rfl (Lt := #[.val (.long key), .second, .val (.int xx), .val (.int yy), .val (.int nn), .val (.int bb), .val (.int cc), .val (.long (own_st key)), .second, .val (.long (own_st (own_st key))), .second, .val (.long (own_s (own_st key))), .second, .unset, .unset, .unset, .unset, .unset]) rfl ?_
      refine o_lload hst X_2.here hx (hb hby at_104) (pc' := 106) rfl rfl ?_
      refine o_bipush hst X_2.here hx (hb hby at_106) (pc' := 108) rfl (z := (33 : Int32)) rfl ?_
      refine o_lushr hst X_2.here hx (hb hby at_108) (pc' := 109) rfl ?_
      refine o_lconst hst X_2.here hx (hb hby at_109) (pc' := 110) rfl (z := (1 : Int64)) rfl ?_
      refine o_ladd hst X_2.here hx (hb hby at_110) (pc' := 111) rfl ?_
      show G (T_2.setTop (mkF mI 111 #[.val (.long key), .second, .val (.int xx), .val (.int yy), .val (.int nn), .val (.int bb), .val (.int cc), .val (.long (own_st key)), .second, .val (.long (own_st (own_st key))), .second, .val (.long (own_s (own_st key))), .second, .unset, .unset, .unset, .unset, .unset] [(.long (own_s (own_st (own_st key))))]))
      have hr1 := own_s_rng (own_st key)
      have hnz : own_s (own_st key) ≠ 0 := fun z => by rw [z] at hr1; exact absurd hr1.1 (by decide)
      refine o_lstore hst X_2.here hx (hb hby at_111) (pc' := 113) rfl (Lt := #[.val (.long key), .second, .val (.int xx), .val (.int yy), .val (.int nn), .val (.int bb), .val (.int cc), .val (.long (own_st key)), .second, .val (.long (own_st (own_st key))), .second, .val (.long (own_s (own_st key))), .second, .val (.long (own_s (own_st (own_st key)))), .second, .unset, .unset, .unset]) rfl ?_
      refine hst (X_2.ldc2Long hx hown (mvT hZ (own_w9 hw)) (g := (mkF mI 113 #[.val (.long key), .second, .val (.int xx), .val (.int yy), .val (.int nn), .val (.int bb), .val (.int cc), .val (.long (own_st key)), .second, .val (.long (own_st (own_st key))), .second, .val (.long (own_s (own_st key))), .second, .val (.long (own_s (own_st (own_st key)))), .second, .unset, .unset, .unset] [])) rfl (hb hby at_113)) ?_
      show G (T_2.setTop (mkF mI 116 #[.val (.long key), .second, .val (.int xx), .val (.int yy), .val (.int nn), .val (.int bb), .val (.int cc), .val (.long (own_st key)), .second, .val (.long (own_st (own_st key))), .second, .val (.long (own_s (own_st key))), .second, .val (.long (own_s (own_st (own_st key)))), .second, .unset, .unset, .unset] [(.long (2147483648 : Int64))]))
      refine o_lload hst X_2.here hx (hb hby at_116) (pc' := 118) rfl rfl ?_
      refine hst (fun _ kt => XS.ldiv X_2.here hx rfl (hb hby at_118) rfl hnz kt) ?_
      show G (T_2.setTop (mkF mI 119 #[.val (.long key), .second, .val (.int xx), .val (.int yy), .val (.int nn), .val (.int bb), .val (.int cc), .val (.long (own_st key)), .second, .val (.long (own_st (own_st key))), .second, .val (.long (own_s (own_st key))), .second, .val (.long (own_s (own_st (own_st key)))), .second, .unset, .unset, .unset] [(.long ((2147483648 : Int64) / (own_s (own_st key))))]))
      generalize ((2147483648 : Int64) / (own_s (own_st key))) = j1 at hze hst_ ⊢
      show G (T_2.setTop (mkF mI 119 #[.val (.long key), .second, .val (.int xx), .val (.int yy), .val (.int nn), .val (.int bb), .val (.int cc), .val (.long (own_st key)), .second, .val (.long (own_st (own_st key))), .second, .val (.long (own_s (own_st key))), .second, .val (.long (own_s (own_st (own_st key)))), .second, .unset, .unset, .unset] [(.long j1)]))
      refine o_lstore hst X_2.here hx (hb hby at_119) (pc' := 121) rfl (Lt := #[.val (.long key), .second, .val (.int xx), .val (.int yy), .val (.int nn), .val (.int bb), .val (.int cc), .val (.long (own_st key)), .second, .val (.long (own_st (own_st key))), .second, .val (.long (own_s (own_st key))), .second, .val (.long (own_s (own_st (own_st key)))), .second, .val (.long j1), .second, .unset]) rfl ?_
      refine o_iload hst X_2.here hx (hb hby at_121) (pc' := 123) rfl rfl ?_
      by_cases hbz : bb = (0 : Int32)
      ·
        refine hst (fun _ kt => XS.ifNo X_2.here hx rfl (hb hby at_123) rfl ((if0 _ _).trans (teq hbz).2) kt) ?_
        show G (T_2.setTop (mkF mI 126 #[.val (.long key), .second, .val (.int xx), .val (.int yy), .val (.int nn), .val (.int bb), .val (.int cc), .val (.long (own_st key)), .second, .val (.long (own_st (own_st key))), .second, .val (.long (own_s (own_st key))), .second, .val (.long (own_s (own_st (own_st key)))), .second, .val (.long j1), .second, .unset] []))
        have hj := hze.mp hbz
        refine o_iconst hst X_2.here hx (hb hby at_126) (pc' := 127) rfl (z := (1 : Int32)) rfl ?_
        refine o_goto hst X_2.here hx (hb hby at_127) (by decide) (pc' := 131) (by decide) ?_
        refine o_lload hst X_2.here hx (hb hby at_131) (pc' := 133) rfl rfl ?_
        refine o_iload hst X_2.here hx (hb hby at_133) (pc' := 135) rfl rfl ?_
        refine o_i2l hst X_2.here hx (hb hby at_135) (pc' := 136) rfl ?_
        refine o_lcmp hst X_2.here hx (hb hby at_136) (pc' := 137) rfl ?_
        have hk1 : ¬ (j1 < (nn.toInt64)) := hj
        refine hst (fun _ kt => XS.ifNo X_2.here hx rfl (hb hby at_137) rfl ((if0 _ _).trans (flt (mt (lw_lt _ _).mp hk1)).1) kt) ?_
        show G (T_2.setTop (mkF mI 140 #[.val (.long key), .second, .val (.int xx), .val (.int yy), .val (.int nn), .val (.int bb), .val (.int cc), .val (.long (own_st key)), .second, .val (.long (own_st (own_st key))), .second, .val (.long (own_s (own_st key))), .second, .val (.long (own_s (own_st (own_st key)))), .second, .val (.long j1), .second, .unset] [(.int (1 : Int32))]))
        refine o_iconst hst X_2.here hx (hb hby at_140) (pc' := 141) rfl (z := (1 : Int32)) rfl ?_
        refine o_goto hst X_2.here hx (hb hby at_141) (by decide) (pc' := 145) (by decide) ?_
        have hk2 : (1 : Int32) = (1 : Int32) := rfl
        refine hst (fun _ kt => XS.icmpYes X_2.here hx rfl (pc0 := 145) (pc' := 150) rfl (hb hby at_145) rfl (teq hk2).1 (by decide) (by decide) kt) ?_
        show G (T_2.setTop (mkF mI 150 #[.val (.long key), .second, .val (.int xx), .val (.int yy), .val (.int nn), .val (.int bb), .val (.int cc), .val (.long (own_st key)), .second, .val (.long (own_st (own_st key))), .second, .val (.long (own_s (own_st key))), .second, .val (.long (own_s (own_st (own_st key)))), .second, .val (.long j1), .second, .unset] []))
        refine o_lload hst X_2.here hx (hb hby at_150) (pc' := 152) rfl rfl ?_
        refine o_iload hst X_2.here hx (hb hby at_152) (pc' := 154) rfl rfl ?_
        refine o_i2l hst X_2.here hx (hb hby at_154) (pc' := 155) rfl ?_
        refine o_lcmp hst X_2.here hx (hb hby at_155) (pc' := 156) rfl ?_
        have hk3 : ¬ (j1 < (nn.toInt64)) := hj
        refine hst (fun _ kt => XS.ifYes X_2.here hx rfl (pc0 := 156) (pc' := 211) rfl (hb hby at_156) rfl ((if0 _ _).trans (flt (mt (lw_lt _ _).mp hk3)).2.1) (by decide) (by decide) kt) ?_
        show G (T_2.setTop (mkF mI 211 #[.val (.long key), .second, .val (.int xx), .val (.int yy), .val (.int nn), .val (.int bb), .val (.int cc), .val (.long (own_st key)), .second, .val (.long (own_st (own_st key))), .second, .val (.long (own_s (own_st key))), .second, .val (.long (own_s (own_st (own_st key)))), .second, .val (.long j1), .second, .unset] []))
        refine o_iconst hst X_2.here hx (hb hby at_211) (pc' := 212) rfl (z := (1 : Int32)) rfl ?_
        exact hend (own_goRet X_2 hx Bd.returns rfl (Or.inl ⟨rfl, by simp, _, rfl⟩) (hb hby at_212) Bd.notSynchronized (by rw [eh_2]; exact ⟨rfl, N_2⟩) (by decide) (by decide))
      ·
        refine hst (fun _ kt => XS.ifYes X_2.here hx rfl (pc0 := 123) (pc' := 130) rfl (hb hby at_123) rfl ((if0 _ _).trans (feq hbz).2) (by decide) (by decide) kt) ?_
        show G (T_2.setTop (mkF mI 130 #[.val (.long key), .second, .val (.int xx), .val (.int yy), .val (.int nn), .val (.int bb), .val (.int cc), .val (.long (own_st key)), .second, .val (.long (own_st (own_st key))), .second, .val (.long (own_s (own_st key))), .second, .val (.long (own_s (own_st (own_st key)))), .second, .val (.long j1), .second, .unset] []))
        have hj : j1 < nn.toInt64 := Classical.byContradiction fun z => hbz (hze.mpr z)
        refine o_iconst hst X_2.here hx (hb hby at_130) (pc' := 131) rfl (z := (0 : Int32)) rfl ?_
        refine o_lload hst X_2.here hx (hb hby at_131) (pc' := 133) rfl rfl ?_
        refine o_iload hst X_2.here hx (hb hby at_133) (pc' := 135) rfl rfl ?_
        refine o_i2l hst X_2.here hx (hb hby at_135) (pc' := 136) rfl ?_
        refine o_lcmp hst X_2.here hx (hb hby at_136) (pc' := 137) rfl ?_
        have hk1 : j1 < (nn.toInt64) := hj
        refine hst (fun _ kt => XS.ifYes X_2.here hx rfl (pc0 := 137) (pc' := 144) rfl (hb hby at_137) rfl ((if0 _ _).trans (tlt ((lw_lt _ _).mpr hk1)).1) (by decide) (by decide) kt) ?_
        show G (T_2.setTop (mkF mI 144 #[.val (.long key), .second, .val (.int xx), .val (.int yy), .val (.int nn), .val (.int bb), .val (.int cc), .val (.long (own_st key)), .second, .val (.long (own_st (own_st key))), .second, .val (.long (own_s (own_st key))), .second, .val (.long (own_s (own_st (own_st key)))), .second, .val (.long j1), .second, .unset] [(.int (0 : Int32))]))
        refine o_iconst hst X_2.here hx (hb hby at_144) (pc' := 145) rfl (z := (0 : Int32)) rfl ?_
        have hk2 : (0 : Int32) = (0 : Int32) := rfl
        refine hst (fun _ kt => XS.icmpYes X_2.here hx rfl (pc0 := 145) (pc' := 150) rfl (hb hby at_145) rfl (teq hk2).1 (by decide) (by decide) kt) ?_
        show G (T_2.setTop (mkF mI 150 #[.val (.long key), .second, .val (.int xx), .val (.int yy), .val (.int nn), .val (.int bb), .val (.int cc), .val (.long (own_st key)), .second, .val (.long (own_st (own_st key))), .second, .val (.long (own_s (own_st key))), .second, .val (.long (own_s (own_st (own_st key)))), .second, .val (.long j1), .second, .unset] []))
        refine o_lload hst X_2.here hx (hb hby at_150) (pc' := 152) rfl rfl ?_
        refine o_iload hst X_2.here hx (hb hby at_152) (pc' := 154) rfl rfl ?_
        refine o_i2l hst X_2.here hx (hb hby at_154) (pc' := 155) rfl ?_
        refine o_lcmp hst X_2.here hx (hb hby at_155) (pc' := 156) rfl ?_
        have hk3 : j1 < (nn.toInt64) := hj
        refine hst (fun _ kt => XS.ifNo X_2.here hx rfl (hb hby at_156) rfl ((if0 _ _).trans (tlt ((lw_lt _ _).mpr hk3)).2.1) kt) ?_
        show G (T_2.setTop (mkF mI 159 #[.val (.long key), .second, .val (.int xx), .val (.int yy), .val (.int nn), .val (.int bb), .val (.int cc), .val (.long (own_st key)), .second, .val (.long (own_st (own_st key))), .second, .val (.long (own_s (own_st key))), .second, .val (.long (own_s (own_st (own_st key)))), .second, .val (.long j1), .second, .unset] []))
        refine o_iload hst X_2.here hx (hb hby at_159) (pc' := 161) rfl rfl ?_
        refine hst (X_2.ldcInt hx hown (mvT hZ (own_w10 hw)) (g := (mkF mI 161 #[.val (.long key), .second, .val (.int xx), .val (.int yy), .val (.int nn), .val (.int bb), .val (.int cc), .val (.long (own_st key)), .second, .val (.long (own_st (own_st key))), .second, .val (.long (own_s (own_st key))), .second, .val (.long (own_s (own_st (own_st key)))), .second, .val (.long j1), .second, .unset] [(.int nn)])) rfl (hb hby at_161)) ?_
        show G (T_2.setTop (mkF mI 163 #[.val (.long key), .second, .val (.int xx), .val (.int yy), .val (.int nn), .val (.int bb), .val (.int cc), .val (.long (own_st key)), .second, .val (.long (own_st (own_st key))), .second, .val (.long (own_s (own_st key))), .second, .val (.long (own_s (own_st (own_st key)))), .second, .val (.long j1), .second, .unset] [(.int (2097152 : Int32)), (.int nn)]))
        by_cases hbig : (2097152 : Int32) < nn
        ·
          refine hst (fun _ kt => XS.icmpYes X_2.here hx rfl (pc0 := 163) (pc' := 211) rfl (hb hby at_163) rfl (tlt hbig).2.2.1 (by decide) (by decide) kt) ?_
          show G (T_2.setTop (mkF mI 211 #[.val (.long key), .second, .val (.int xx), .val (.int yy), .val (.int nn), .val (.int bb), .val (.int cc), .val (.long (own_st key)), .second, .val (.long (own_st (own_st key))), .second, .val (.long (own_s (own_st key))), .second, .val (.long (own_s (own_st (own_st key)))), .second, .val (.long j1), .second, .unset] []))
          refine o_iconst hst X_2.here hx (hb hby at_211) (pc' := 212) rfl (z := (1 : Int32)) rfl ?_
          exact hend (own_goRet X_2 hx Bd.returns rfl (Or.inl ⟨rfl, by simp, _, rfl⟩) (hb hby at_212) Bd.notSynchronized (by rw [eh_2]; exact ⟨rfl, N_2⟩) (by decide) (by decide))
        ·
          refine hst (fun _ kt => XS.icmpNo X_2.here hx rfl (hb hby at_163) rfl (flt hbig).2.2.1 kt) ?_
          show G (T_2.setTop (mkF mI 166 #[.val (.long key), .second, .val (.int xx), .val (.int yy), .val (.int nn), .val (.int bb), .val (.int cc), .val (.long (own_st key)), .second, .val (.long (own_st (own_st key))), .second, .val (.long (own_s (own_st key))), .second, .val (.long (own_s (own_st (own_st key)))), .second, .val (.long j1), .second, .unset] []))
          have hsm : nn.toInt ≤ 2097152 := by rw [Int32.lt_iff_toInt_lt, show (2097152 : Int32).toInt = 2097152 from by decide] at hbig; omega
          have hs := hst_ hsm hj
          refine o_lload hst X_2.here hx (hb hby at_166) (pc' := 168) rfl rfl ?_
          refine o_lconst hst X_2.here hx (hb hby at_168) (pc' := 169) rfl (z := (1 : Int64)) rfl ?_
          refine o_ladd hst X_2.here hx (hb hby at_169) (pc' := 170) rfl ?_
          refine o_bipush hst X_2.here hx (hb hby at_170) (pc' := 172) rfl (z := (31 : Int32)) rfl ?_
          refine o_lshl hst X_2.here hx (hb hby at_172) (pc' := 173) rfl ?_
          refine o_iload hst X_2.here hx (hb hby at_173) (pc' := 175) rfl rfl ?_
          refine o_i2l hst X_2.here hx (hb hby at_175) (pc' := 176) rfl ?_
          refine o_lload hst X_2.here hx (hb hby at_176) (pc' := 178) rfl rfl ?_
          refine o_lmul hst X_2.here hx (hb hby at_178) (pc' := 179) rfl ?_
          refine o_lcmp hst X_2.here hx (hb hby at_179) (pc' := 180) rfl ?_
          by_cases hsh : ((j1 + (1 : Int64)) <<< ((31 : Int32) &&& 0x3f).toInt64) < ((nn.toInt64) * (own_s (own_st (own_st key))))
          ·
            refine hst (fun _ kt => XS.ifYes X_2.here hx rfl (pc0 := 180) (pc' := 187) rfl (hb hby at_180) rfl ((if0 _ _).trans (tlt ((lw_lt _ _).mpr hsh)).1) (by decide) (by decide) kt) ?_
            show G (T_2.setTop (mkF mI 187 #[.val (.long key), .second, .val (.int xx), .val (.int yy), .val (.int nn), .val (.int bb), .val (.int cc), .val (.long (own_st key)), .second, .val (.long (own_st (own_st key))), .second, .val (.long (own_s (own_st key))), .second, .val (.long (own_s (own_st (own_st key)))), .second, .val (.long j1), .second, .unset] []))
            refine o_iconst hst X_2.here hx (hb hby at_187) (pc' := 188) rfl (z := (0 : Int32)) rfl ?_
            refine o_istore hst X_2.here hx (hb hby at_188) (pc' := 190) rfl (Lt := #[.val (.long key), .second, .val (.int xx), .val (.int yy), .val (.int nn), .val (.int bb), .val (.int cc), .val (.long (own_st key)), .second, .val (.long (own_st (own_st key))), .second, .val (.long (own_s (own_st key))), .second, .val (.long (own_s (own_st (own_st key)))), .second, .val (.long j1), .second, .val (.int (0 : Int32))]) rfl ?_
            refine o_iload hst X_2.here hx (hb hby at_190) (pc' := 192) rfl rfl ?_
            refine o_i2l hst X_2.here hx (hb hby at_192) (pc' := 193) rfl ?_
            refine o_lload hst X_2.here hx (hb hby at_193) (pc' := 195) rfl rfl ?_
            refine o_lcmp hst X_2.here hx (hb hby at_195) (pc' := 196) rfl ?_
            have hq : ¬ ((bb.toInt64) = j1) := fun z => hs.mp z hsh
            refine hst (fun _ kt => XS.ifYes X_2.here hx rfl (pc0 := 196) (pc' := 203) rfl (hb hby at_196) rfl ((if0 _ _).trans (feq (mt (lw_eq _ _).mp hq)).2) (by decide) (by decide) kt) ?_
            show G (T_2.setTop (mkF mI 203 #[.val (.long key), .second, .val (.int xx), .val (.int yy), .val (.int nn), .val (.int bb), .val (.int cc), .val (.long (own_st key)), .second, .val (.long (own_st (own_st key))), .second, .val (.long (own_s (own_st key))), .second, .val (.long (own_s (own_st (own_st key)))), .second, .val (.long j1), .second, .val (.int (0 : Int32))] []))
            refine o_iconst hst X_2.here hx (hb hby at_203) (pc' := 204) rfl (z := (0 : Int32)) rfl ?_
            refine o_iload hst X_2.here hx (hb hby at_204) (pc' := 206) rfl rfl ?_
            have hq2 : (0 : Int32) = (0 : Int32) := rfl
            refine hst (fun _ kt => XS.icmpYes X_2.here hx rfl (pc0 := 206) (pc' := 211) rfl (hb hby at_206) rfl (teq hq2).1 (by decide) (by decide) kt) ?_
            show G (T_2.setTop (mkF mI 211 #[.val (.long key), .second, .val (.int xx), .val (.int yy), .val (.int nn), .val (.int bb), .val (.int cc), .val (.long (own_st key)), .second, .val (.long (own_st (own_st key))), .second, .val (.long (own_s (own_st key))), .second, .val (.long (own_s (own_st (own_st key)))), .second, .val (.long j1), .second, .val (.int (0 : Int32))] []))
            refine o_iconst hst X_2.here hx (hb hby at_211) (pc' := 212) rfl (z := (1 : Int32)) rfl ?_
            exact hend (own_goRet X_2 hx Bd.returns rfl (Or.inl ⟨rfl, by simp, _, rfl⟩) (hb hby at_212) Bd.notSynchronized (by rw [eh_2]; exact ⟨rfl, N_2⟩) (by decide) (by decide))
          ·
            refine hst (fun _ kt => XS.ifNo X_2.here hx rfl (hb hby at_180) rfl ((if0 _ _).trans (flt (mt (lw_lt _ _).mp hsh)).1) kt) ?_
            show G (T_2.setTop (mkF mI 183 #[.val (.long key), .second, .val (.int xx), .val (.int yy), .val (.int nn), .val (.int bb), .val (.int cc), .val (.long (own_st key)), .second, .val (.long (own_st (own_st key))), .second, .val (.long (own_s (own_st key))), .second, .val (.long (own_s (own_st (own_st key)))), .second, .val (.long j1), .second, .unset] []))
            refine o_iconst hst X_2.here hx (hb hby at_183) (pc' := 184) rfl (z := (1 : Int32)) rfl ?_
            refine o_goto hst X_2.here hx (hb hby at_184) (by decide) (pc' := 188) (by decide) ?_
            refine o_istore hst X_2.here hx (hb hby at_188) (pc' := 190) rfl (Lt := #[.val (.long key), .second, .val (.int xx), .val (.int yy), .val (.int nn), .val (.int bb), .val (.int cc), .val (.long (own_st key)), .second, .val (.long (own_st (own_st key))), .second, .val (.long (own_s (own_st key))), .second, .val (.long (own_s (own_st (own_st key)))), .second, .val (.long j1), .second, .val (.int (1 : Int32))]) rfl ?_
            refine o_iload hst X_2.here hx (hb hby at_190) (pc' := 192) rfl rfl ?_
            refine o_i2l hst X_2.here hx (hb hby at_192) (pc' := 193) rfl ?_
            refine o_lload hst X_2.here hx (hb hby at_193) (pc' := 195) rfl rfl ?_
            refine o_lcmp hst X_2.here hx (hb hby at_195) (pc' := 196) rfl ?_
            have hq : (bb.toInt64) = j1 := hs.mpr hsh
            refine hst (fun _ kt => XS.ifNo X_2.here hx rfl (hb hby at_196) rfl ((if0 _ _).trans (teq ((lw_eq _ _).mpr hq)).2) kt) ?_
            show G (T_2.setTop (mkF mI 199 #[.val (.long key), .second, .val (.int xx), .val (.int yy), .val (.int nn), .val (.int bb), .val (.int cc), .val (.long (own_st key)), .second, .val (.long (own_st (own_st key))), .second, .val (.long (own_s (own_st key))), .second, .val (.long (own_s (own_st (own_st key)))), .second, .val (.long j1), .second, .val (.int (1 : Int32))] []))
            refine o_iconst hst X_2.here hx (hb hby at_199) (pc' := 200) rfl (z := (1 : Int32)) rfl ?_
            refine o_goto hst X_2.here hx (hb hby at_200) (by decide) (pc' := 204) (by decide) ?_
            refine o_iload hst X_2.here hx (hb hby at_204) (pc' := 206) rfl rfl ?_
            have hq2 : (1 : Int32) = (1 : Int32) := rfl
            refine hst (fun _ kt => XS.icmpYes X_2.here hx rfl (pc0 := 206) (pc' := 211) rfl (hb hby at_206) rfl (teq hq2).1 (by decide) (by decide) kt) ?_
            show G (T_2.setTop (mkF mI 211 #[.val (.long key), .second, .val (.int xx), .val (.int yy), .val (.int nn), .val (.int bb), .val (.int cc), .val (.long (own_st key)), .second, .val (.long (own_st (own_st key))), .second, .val (.long (own_s (own_st key))), .second, .val (.long (own_s (own_st (own_st key)))), .second, .val (.long j1), .second, .val (.int (1 : Int32))] []))
            refine o_iconst hst X_2.here hx (hb hby at_211) (pc' := 212) rfl (z := (1 : Int32)) rfl ?_
            exact hend (own_goRet X_2 hx Bd.returns rfl (Or.inl ⟨rfl, by simp, _, rfl⟩) (hb hby at_212) Bd.notSynchronized (by rw [eh_2]; exact ⟨rfl, N_2⟩) (by decide) (by decide))
    by_cases hcb : cc = bb
    ·
      refine hst (fun _ kt => XS.icmpYes X_2.here hx rfl (pc0 := 64) (pc' := 76) rfl (hb hby at_64) rfl (teq hcb).1 (by decide) (by decide) kt) ?_
      show G (T_2.setTop (mkF mI 76 #[.val (.long key), .second, .val (.int xx), .val (.int yy), .val (.int nn), .val (.int bb), .val (.int cc), .unset, .unset, .unset, .unset, .unset, .unset, .unset, .unset, .unset, .unset, .unset] []))
      exact J76
    ·
      refine hst (fun _ kt => XS.icmpNo X_2.here hx rfl (hb hby at_64) rfl (feq hcb).1 kt) ?_
      show G (T_2.setTop (mkF mI 67 #[.val (.long key), .second, .val (.int xx), .val (.int yy), .val (.int nn), .val (.int bb), .val (.int cc), .unset, .unset, .unset, .unset, .unset, .unset, .unset, .unset, .unset, .unset, .unset] []))
      refine o_iload hst X_2.here hx (hb hby at_67) (pc' := 69) rfl rfl ?_
      refine o_iload hst X_2.here hx (hb hby at_69) (pc' := 71) rfl rfl ?_
      have hcn : cc = nn := hnx.resolve_left hcb
      refine hst (fun _ kt => XS.icmpYes X_2.here hx rfl (pc0 := 71) (pc' := 76) rfl (hb hby at_71) rfl (teq hcn).1 (by decide) (by decide) kt) ?_
      show G (T_2.setTop (mkF mI 76 #[.val (.long key), .second, .val (.int xx), .val (.int yy), .val (.int nn), .val (.int bb), .val (.int cc), .unset, .unset, .unset, .unset, .unset, .unset, .unset, .unset, .unset, .unset, .unset] []))
      exact J76
  by_cases hy : (yy &&& (1 : Int32)) = (0 : Int32)
  ·
    refine hst (fun _ kt => XS.ifYes X0.here hx rfl (pc0 := 3) (pc' := 17) rfl (hb hby at_3) rfl ((if0 _ _).trans (teq hy).1) (by decide) (by decide) kt) ?_
    show G (s₁.setTop (mkF mI 17 #[.val (.long key), .second, .val (.int xx), .val (.int yy), .unset, .unset, .unset, .unset, .unset, .unset, .unset, .unset, .unset, .unset, .unset, .unset, .unset, .unset] []))
    refine o_iloadN hst X0.here hx (hb hby at_17) (pc' := 18) rfl rfl ?_
    refine hst (X0.ldcInt hx hown (mvT hZ (own_w11 hw)) (g := (mkF mI 18 #[.val (.long key), .second, .val (.int xx), .val (.int yy), .unset, .unset, .unset, .unset, .unset, .unset, .unset, .unset, .unset, .unset, .unset, .unset, .unset, .unset] [(.int xx)])) rfl (hb hby at_18)) ?_
    show G (s₁.setTop (mkF mI 20 #[.val (.long key), .second, .val (.int xx), .val (.int yy), .unset, .unset, .unset, .unset, .unset, .unset, .unset, .unset, .unset, .unset, .unset, .unset, .unset, .unset] [(.int (2147483647 : Int32)), (.int xx)]))
    refine o_iand hst X0.here hx (hb hby at_20) (pc' := 21) rfl ?_
    refine hst (X0.ldcInt hx hown (mvT hZ (own_w12 hw)) (g := (mkF mI 21 #[.val (.long key), .second, .val (.int xx), .val (.int yy), .unset, .unset, .unset, .unset, .unset, .unset, .unset, .unset, .unset, .unset, .unset, .unset, .unset, .unset] [(.int (xx &&& (2147483647 : Int32)))])) rfl (hb hby at_21)) ?_
    show G (s₁.setTop (mkF mI 23 #[.val (.long key), .second, .val (.int xx), .val (.int yy), .unset, .unset, .unset, .unset, .unset, .unset, .unset, .unset, .unset, .unset, .unset, .unset, .unset, .unset] [(.int (2147483646 : Int32)), (.int (xx &&& (2147483647 : Int32)))]))
    refine hst (fun _ kt => iremM X0 hx rfl (hb hby at_23) rfl (by decide) kt) ?_
    show G (s₁.setTop (mkF mI 24 #[.val (.long key), .second, .val (.int xx), .val (.int yy), .unset, .unset, .unset, .unset, .unset, .unset, .unset, .unset, .unset, .unset, .unset, .unset, .unset, .unset] [(.int ((xx &&& (2147483647 : Int32)) % (2147483646 : Int32)))]))
    refine o_iconst hst X0.here hx (hb hby at_24) (pc' := 25) rfl (z := (1 : Int32)) rfl ?_
    refine o_iadd hst X0.here hx (hb hby at_25) (pc' := 26) rfl ?_
    refine o_istore hst X0.here hx (hb hby at_26) (pc' := 28) rfl (Lt := #[.val (.long key), .second, .val (.int xx), .val (.int yy), .val (.int (((xx &&& (2147483647 : Int32)) % (2147483646 : Int32)) + (1 : Int32))), .unset, .unset, .unset, .unset, .unset, .unset, .unset, .unset, .unset, .unset, .unset, .unset, .unset]) rfl ?_
    exact J28 _ (own_n2 xx).1 (own_n2 xx).2
  ·
    refine hst (fun _ kt => XS.ifNo X0.here hx rfl (hb hby at_3) rfl ((if0 _ _).trans (feq hy).1) kt) ?_
    show G (s₁.setTop (mkF mI 6 #[.val (.long key), .second, .val (.int xx), .val (.int yy), .unset, .unset, .unset, .unset, .unset, .unset, .unset, .unset, .unset, .unset, .unset, .unset, .unset, .unset] []))
    refine o_iloadN hst X0.here hx (hb hby at_6) (pc' := 7) rfl rfl ?_
    refine hst (X0.ldcInt hx hown (mvT hZ (own_w0 hw)) (g := (mkF mI 7 #[.val (.long key), .second, .val (.int xx), .val (.int yy), .unset, .unset, .unset, .unset, .unset, .unset, .unset, .unset, .unset, .unset, .unset, .unset, .unset, .unset] [(.int xx)])) rfl (hb hby at_7)) ?_
    show G (s₁.setTop (mkF mI 9 #[.val (.long key), .second, .val (.int xx), .val (.int yy), .unset, .unset, .unset, .unset, .unset, .unset, .unset, .unset, .unset, .unset, .unset, .unset, .unset, .unset] [(.int (2097151 : Int32)), (.int xx)]))
    refine o_iand hst X0.here hx (hb hby at_9) (pc' := 10) rfl ?_
    refine o_iconst hst X0.here hx (hb hby at_10) (pc' := 11) rfl (z := (1 : Int32)) rfl ?_
    refine o_iadd hst X0.here hx (hb hby at_11) (pc' := 12) rfl ?_
    refine o_istore hst X0.here hx (hb hby at_12) (pc' := 14) rfl (Lt := #[.val (.long key), .second, .val (.int xx), .val (.int yy), .val (.int ((xx &&& (2097151 : Int32)) + (1 : Int32))), .unset, .unset, .unset, .unset, .unset, .unset, .unset, .unset, .unset, .unset, .unset, .unset, .unset]) rfl ?_
    refine o_goto hst X0.here hx (hb hby at_14) (by decide) (pc' := 28) (by decide) ?_
    exact J28 _ (own_n1 xx).1 (own_n1 xx).2
set_option maxRecDepth 65536 in
set_option maxHeartbeats 40000000 in
theorem comes_1 {Post : Tables → Env → Array Value → State → Outcome → State → Prop} (hpost : ∀ tb e args s v u, (limb_1_1.after args s (.returned v) u = true ∧ limb_1_2.after args s (.returned v) u = true ∧ True) → FrameEnd s (.returned v) u (Jvm.fieldLocs frame_1_writes args s ++ Jvm.arrayLocs frame_1_arrays args s ++ Jvm.staticLocs frame_1_statics s) 0 0 → Post tb e args s (.returned v) u) :
    ArmFor flags0 classFile x code maxLocals ret World_1 tables_1 room_1 Calls_1 rest_1 Pre_1 Post := by
  intro l hfl _ _ p e ha hc hk s m args below hf hA hF happ hP
  obtain ⟨hcalls, hrest, hpre⟩ := hP
  obtain ⟨-, -, -, hnamed, -, -, -, hat⟩ := (Spec.applies_iff hf).mp happ
  obtain ⟨hg, hn⟩ := and_e (Cond.before_iff.mp (show (Jvm.Cond.and given_1 narrow_1).before args s = true from hpre))
  obtain ⟨gc, g0⟩ := and_e hg
  obtain ⟨ga0, g1⟩ := and_e g0
  obtain ⟨ga1, g2⟩ := and_e g1
  obtain ⟨w0, w1, w2, rfl⟩ : ∃ w0 w1 w2 : Value, args = #[w0, w1, w2] := by
    have hs : args.size = 3 := by simpa [Cond.value, given_1] using gc
    obtain ⟨L⟩ := args
    match L, hs with
    | [w0, w1, w2], _ => exact ⟨w0, w1, w2, rfl⟩
  have hw := fun d (hd : d ∈ tables_1) => atoms_spec (ws := Jvm.Cond.code x code maxLocals ret :: tables_1) hat d (List.mem_cons_of_mem _ hd)
  have hfit : Fit s := fun {y c} hc i hi => by
    obtain ⟨ha, rfl⟩ := Array.getElem?_eq_some_iff.mp hc
    have q := List.all_eq_true.mp ((Array.all_eq_true_iff_forall_mem.mp hF) _ (Array.getElem_mem ha)) i (List.mem_range.mpr hi)
    simpa [Array.getElem?_eq_getElem hi] using q
  obtain ⟨i0, ei0⟩ := isL_v ga0
  obtain rfl : w0 = (.long i0) := Option.some.inj ei0
  obtain ⟨i1, ei1⟩ := is_v ga1
  obtain rfl : w1 = (.int i1) := Option.some.inj ei1
  obtain ⟨i2, ei2⟩ := is_v g2
  obtain rfl : w2 = (.int i2) := Option.some.inj ei2
  obtain ⟨n, o, h1, h2, h3, _, L, rfl, ⟨rfl, N⟩, hq⟩ := rm0 l s _ hw tables_1 i0 i1 i2  s.heap s.heap.size (Nat.le_refl _)  p e ha hc hk s m _ below hf ((Spec.applies_iff_loose hf).mp happ).1 ⟨rfl, State.Warmed39.refl s, rfl⟩ trivial
  refine ⟨n, _, h1, h2, h3, hpost _ _ _ _ _ _ ⟨Cond.after_iff.mpr rfl, Cond.after_iff.mpr (eq_i res_at (Term.int_eval (1)) rfl), trivial⟩ ⟨hq.1, hq.2.1, (hq.2.2.sift fun y hy => Or.inr (N y hy)).mono (by decide) (by decide)⟩⟩
theorem main_1_1 : Claimed_1_1 := comes_1 fun _ _ _ _ _ _ h hF => ⟨h.1, hF⟩
theorem main_1_2 : Claimed_1_2 := comes_1 fun _ _ _ _ _ _ h hF => ⟨h.2.1, hF⟩
end Jvm.Pilot.@@N@@
namespace Jvm.Pilot.@@N@@
open Jvm Jvm.ClassFile Sem Op Lib Jvm.Free Jvm.Stand Jvm.Pilot.@@N@@.Jvm.D
/-! MADE BY PROGRAM (witnessworld.py) out of the Statement's table words and the real class files: 9 classes; the members and pool entries that the words name. The judged class is class 1, her method 1. -/
namespace start1
open Jvm.ClassFile
def u (s : String) : CpInfo := .utf8 (stringToUtf16 s)
/-- a pool by its gaps: so many unusable entries, then the entry; so many at the end -/
def gap : Nat → List CpInfo → List CpInfo
  | 0, r => r
  | n + 1, r => .unusable :: gap n r
def poolList (es : List (Nat × CpInfo)) (last : Nat) : List CpInfo := es.foldr (fun e r => gap e.1 (e.2 :: r)) (gap last [])
def pool (es : List (Nat × CpInfo)) (last : Nat) : Array CpInfo := ⟨poolList es last⟩
def fileOf (pool : Array CpInfo) (this : Nat) (attrs : Array Attribute := #[]) (ms : Array MethodInfo := #[]) (fl : Nat := 33) (sup : Nat := 0) (ifs : Array Nat := #[]) (fds : Array FieldInfo := #[]) : ClassFile where
  minorVersion := 0
  majorVersion := 65
  constantPool := pool
  accessFlags := fl
  thisClass := this
  superClass := sup
  interfaces := ifs
  fields := fds
  methods := ms
  attributes := attrs
def plain (name : String) (sup : Option ClassId) : Class where
  name := name
  kind := .ordinary
  loader := none
  accessFlags := 33
  super := sup
  interfaces := #[]
  cf := none
  fields := #[]
  methods := #[]
  instanceTypes := #[]
  staticTypes := #[]
  resolved := #[]
  callSites := []
  init := .initialized
  statics := none
  mirror := none

def pool0 : Array CpInfo := pool [(5, u "<init>"), (0, u "()V"), (1, .class_ 10), (1, u "java/lang/Object")] 113

def k0m0 : Method := { name := "<init>", desc := "()V", sig := { parameters := [], returnType := none }, accessFlags := 1, code := none }
/-- java/lang/Object -/
def k0 : Class := { plain "java/lang/Object" none with
  accessFlags := 33
  interfaces := #[]
  cf := some (fileOf pool0 8 #[] #[{ accessFlags := 1, nameIndex := 5, descriptorIndex := 6, attributes := #[] }] 33 0 #[] #[])
  fields := #[]
  methods := #[k0m0]
  instanceTypes := #[]
  staticTypes := #[]
  resolved := Array.replicate 124 none
  statics := none }

def pool1 : Array CpInfo := pool [(2, .class_ 4), (1, u "java/lang/Object"), (0, u "<init>"), (0, u "()V"), (0, .integer 2097151), (0, .integer 2147483647), (0, .integer 2147483646), (0, .methodref 11 12), (0, .class_ 13), (0, .nameAndType 14 15), (0, u "com/example/hash_to_host/hashtohost/JumpHash"), (0, u "bucket"), (0, u "(JI)I"), (0, .long 2862933555777941757), (1, .long 2147483648), (1, .integer 2097152), (0, .class_ 22), (0, u "com/example/hash_to_host/hashtohost/JumpHashBucketPinLaw"), (2, u "law"), (0, u "(JII)Z")] 3

def k1m0 : Method := { name := "<init>", desc := "()V", sig := { parameters := [], returnType := none }, accessFlags := 2, code := none }
def k1c1 : Code := { maxStack := 6, maxLocals := 18, code := code, exceptionTable := #[], attributes := #[] }
def k1m1 : Method := { name := "law", desc := "(JII)Z", sig := { parameters := [.long, .int, .int], returnType := some .boolean }, accessFlags := 9, code := some k1c1 }
/-- com/example/hash_to_host/hashtohost/JumpHashBucketPinLaw -/
def k1 : Class := { plain "com/example/hash_to_host/hashtohost/JumpHashBucketPinLaw" (some 0) with
  accessFlags := 49
  interfaces := #[]
  cf := some (fileOf pool1 21 #[] #[{ accessFlags := 2, nameIndex := 5, descriptorIndex := 6, attributes := #[] }, { accessFlags := 9, nameIndex := 25, descriptorIndex := 26, attributes := #[] }] 49 2 #[] #[])
  fields := #[]
  methods := #[k1m0, k1m1]
  instanceTypes := #[]
  staticTypes := #[]
  resolved := Array.replicate 30 none
  statics := none }

def pool2 : Array CpInfo := pool [(2, .class_ 4), (1, u "java/lang/Object"), (0, u "<init>"), (0, u "()V"), (9, .long 18446744073709551615), (1, .class_ 19), (0, u "com/example/hash_to_host/hashtohost/JumpHash"), (0, .long 2862933555777941757), (1, .double 4746794007248502784), (9, u "bucket"), (0, u "(JI)I"), (15, u "MULTIPLIER"), (0, u "J"), (1, u "TWO_TO_THE_31"), (0, u "D")] 21

def k2m0 : Method := { name := "<init>", desc := "()V", sig := { parameters := [], returnType := none }, accessFlags := 2, code := none }
def k2c1 : Code := { maxStack := 4, maxLocals := 11, code := prog_9_method_2_code, exceptionTable := #[], attributes := #[] }
def k2m1 : Method := { name := "bucket", desc := "(JI)I", sig := { parameters := [.long, .int], returnType := some .int }, accessFlags := 9, code := some k2c1 }
/-- com/example/hash_to_host/hashtohost/JumpHash -/
def k2 : Class := { plain "com/example/hash_to_host/hashtohost/JumpHash" (some 0) with
  accessFlags := 49
  interfaces := #[]
  cf := some (fileOf pool2 18 #[] #[{ accessFlags := 2, nameIndex := 5, descriptorIndex := 6, attributes := #[] }, { accessFlags := 9, nameIndex := 32, descriptorIndex := 33, attributes := #[] }] 49 2 #[] #[{ accessFlags := 26, nameIndex := 49, descriptorIndex := 50, attributes := #[] }, { accessFlags := 26, nameIndex := 52, descriptorIndex := 53, attributes := #[] }])
  fields := #[{ name := "MULTIPLIER", type := .long, accessFlags := 26, slot := 0, constantValue := 0 }, { name := "TWO_TO_THE_31", type := .double, accessFlags := 26, slot := 1, constantValue := 0 }]
  methods := #[k2m0, k2m1]
  instanceTypes := #[]
  staticTypes := #[.long, .double]
  resolved := Array.replicate 75 none
  statics := none }

def pool3 : Array CpInfo := pool [(1, u "java/lang/Cloneable"), (0, .class_ 1), (0, u "java/lang/Object"), (0, .class_ 3)] 3

/-- java/lang/Cloneable -/
def k3 : Class := { plain "java/lang/Cloneable" (some 0) with
  accessFlags := 1537
  interfaces := #[]
  cf := some (fileOf pool3 2 #[] #[] 1537 4 #[] #[])
  fields := #[]
  methods := #[]
  instanceTypes := #[]
  staticTypes := #[]
  resolved := Array.replicate 8 none
  statics := none }

def pool4 : Array CpInfo := pool [(1, u "java/io/Serializable"), (0, .class_ 1), (0, u "java/lang/Object"), (0, .class_ 3)] 3

/-- java/io/Serializable -/
def k4 : Class := { plain "java/io/Serializable" (some 0) with
  accessFlags := 1537
  interfaces := #[]
  cf := some (fileOf pool4 2 #[] #[] 1537 4 #[] #[])
  fields := #[]
  methods := #[]
  instanceTypes := #[]
  staticTypes := #[]
  resolved := Array.replicate 8 none
  statics := none }

/-- the primitive byte -/
def k5 : Class := { plain "byte" none with kind := .primitive 'B', accessFlags := 0x411 }
/-- [B -/
def k6 : Class := { plain "[B" (some 0) with kind := .array 5 .byte, interfaces := #[3, 4], accessFlags := 1041 }

/-- the primitive int -/
def k7 : Class := { plain "int" none with kind := .primitive 'I', accessFlags := 0x411 }
/-- [I -/
def k8 : Class := { plain "[I" (some 0) with kind := .array 7 .int, interfaces := #[3, 4], accessFlags := 1041 }

def heap : Heap := #[]
def classes : Array Class := #[k0, k1, k2, k3, k4, k5, k6, k7, k8]
def interned : List (Array UInt16 × Addr) := []
def slotsUsed : Nat := 0
def theMethod : MethodId := ⟨1, 1⟩
def args0 : Array Value := #[.long 12345, .int 9, .int 1]
def aboutOver (below : List Frame) : State where
  vm := { classes := classes, interned := interned.toArray }
  heap := heap
  slotsUsed := slotsUsed
  threads := #[{ frames := .invoking theMethod args0 :: below }]
def below0 : List Frame := [.native { method := ⟨0, 0⟩, args := #[] }]
def about1 : State := aboutOver below0
def p0 : Program := .bare "" "" ""
def e0 : Env := launch0.env 0 0 0
theorem w_frames : about1.frames = Frame.invoking theMethod args0 :: below0 := rfl
set_option maxRecDepth 65536 in
theorem w_args : argsFit about1.vm theMethod args0 = true := by decide +kernel
set_option maxRecDepth 65536 in
theorem w_heap : heapFits about1 = true := by decide +kernel
set_option maxRecDepth 65536 in
theorem w_runnable : about1.curStatus? = some .runnable := by decide +kernel
set_option maxRecDepth 65536 in
theorem w_alone : about1.alone = true := by decide +kernel
set_option maxRecDepth 65536 in
theorem w_named : about1.methodNamed? x = some theMethod := by decide +kernel
set_option maxRecDepth 65536 in
theorem w_hears : about1.hears theMethod below0 = true := by decide +kernel
set_option maxRecDepth 65536 in
theorem w_ripe : about1.ripe theMethod args0 below0 = true := by decide +kernel
theorem w_running : about1.status = .running := rfl
set_option maxRecDepth 65536 in
theorem w_room : about1.hasRoom e0.platform room_1 = true :=
  launch0.hasRoom_least _ room_1 (by decide +kernel) (by decide +kernel) (by decide +kernel) (by decide +kernel) (by decide +kernel) (by decide +kernel)
theorem allAtoms_all (ts : List Jvm.Cond) (a : Array Jvm.Value) (st : Jvm.State) : (allAtoms ts).before a st = ts.all (fun c => c.before a st) := by
  induction ts with
  | nil => rfl
  | cons c t ih =>
    show (Jvm.Cond.and c (allAtoms t)).before a st = _
    rw [Jvm.Cond.before_and, ih, List.all_cons]
def words1 : List Jvm.Cond := Jvm.Cond.code x code maxLocals ret :: tables_1
/-- a 'code' word, met by the world's own term for the bytes: nothing is compared byte by byte -/
theorem code_word {y : MethodName} {bytes : ByteArray} {mx : Nat} {rt : Option FieldType} {a : Array Value} {s : State} {m : MethodId} {meth : Method} {c : Code} (h1 : s.methodNamed? y = some m) (h2 : s.vm.method? m = some meth) (h3 : meth.code = some c) (h4 : c.code = bytes)
    (h5 : (c.maxLocals == mx && c.exceptionTable.isEmpty && decide (c.maxStack ≤ mostOperands) && decide (meth.sig.returnType = rt) && !meth.locks && decide (parseMethodDescriptor y.desc = some meth.sig)) = true) : (Jvm.Cond.code y bytes mx rt).before a s = true := by
  simp only [Bool.and_eq_true, beq_iff_eq, Bool.not_eq_true', decide_eq_true_eq] at h5
  obtain ⟨⟨⟨⟨⟨g1, g2⟩, g3⟩, g4⟩, g5⟩, g6⟩ := h5
  simp [Cond.before, Cond.holds, Cond.value, h1, h2, h3, h4, g1, g2, g3, g4, g5, g6]
def isCode : Jvm.Cond → Bool
  | .code _ _ _ _ => true
  | _ => false
theorem all_split {L : List Jvm.Cond} {P : Jvm.Cond → Bool} (h1 : L.all (fun c => isCode c || P c) = true) (h2 : ∀ c ∈ L.filter isCode, P c = true) : L.all P = true := by
  refine List.all_eq_true.mpr fun c hc => ?_
  have h := List.all_eq_true.mp h1 c hc
  rcases Bool.eq_false_or_eq_true (isCode c) with hi | hi
  · exact h2 c (List.mem_filter.mpr ⟨hc, hi⟩)
  · simpa [hi] using h
set_option maxRecDepth 65536 in
theorem w_c0 : (Jvm.Cond.code x code maxLocals ret).before args0 about1 = true := code_word (m := ⟨1, 1⟩) (meth := k1m1) (c := k1c1) (by decide +kernel) rfl rfl rfl (by decide +kernel)
set_option maxRecDepth 65536 in
theorem w_c1 : (Jvm.Cond.code ({ cls := "com/example/hash_to_host/hashtohost/JumpHash", name := "bucket", desc := "(JI)I" } : Jvm.MethodName) prog_9_method_2_code (11 : Nat) (Option.some Jvm.ClassFile.FieldType.int)).before args0 about1 = true := code_word (m := ⟨2, 1⟩) (meth := k2m1) (c := k2c1) (by decide +kernel) rfl rfl rfl (by decide +kernel)
def codes1 : List Jvm.Cond := [Jvm.Cond.code x code maxLocals ret, Jvm.Cond.code ({ cls := "com/example/hash_to_host/hashtohost/JumpHash", name := "bucket", desc := "(JI)I" } : Jvm.MethodName) prog_9_method_2_code (11 : Nat) (Option.some Jvm.ClassFile.FieldType.int)]
set_option maxRecDepth 65536 in
theorem codes_eq : words1.filter isCode = codes1 := rfl
theorem w_codes : ∀ c ∈ words1.filter isCode, c.before args0 about1 = true := by
  rw [codes_eq]
  intro c hc
  simp only [codes1, List.mem_cons, List.not_mem_nil, or_false] at hc
  rcases hc with rfl | rfl
  · exact w_c0
  · exact w_c1
set_option maxRecDepth 65536 in
theorem w_t1 : words1.all (fun c => isCode c || c.before args0 about1) = true := by decide +kernel
theorem w_tables : (allAtoms (Jvm.Cond.code x code maxLocals ret :: tables_1)).before args0 about1 = true := by
  rw [allAtoms_all]
  show words1.all (fun c => c.before args0 about1) = true
  refine all_split ?_ w_codes
  rw [w_t1]
set_option maxRecDepth 65536 in
theorem w_case : (Jvm.Cond.and given_1 narrow_1).before args0 about1 = true := by decide +kernel
theorem w_applies : (headSpec (Jvm.Cond.code x code maxLocals ret :: tables_1) room_1).applies x e0.platform about1 = true :=
  (Spec.applies_iff w_frames).mpr ⟨w_running, w_runnable, w_alone, w_named, w_hears, w_ripe, w_room, w_tables⟩
theorem atStart : AtStart classFile x code maxLocals ret World_1 tables_1 room_1 Calls_1 rest_1 Pre_1 launch0 p0 e0 about1 theMethod args0 below0 :=
  ⟨lists_1, trivial, launch0.admits_env _ _ _, launch0.least_env, fairChoices_fair.cas, fairChoices_fair.clock, w_frames, w_args, w_heap, w_applies, trivial, trivial, w_case⟩
end start1
theorem witness_1 : WitnessClaimed_1 := ⟨start1.p0, start1.e0, start1.about1, start1.theMethod, start1.args0, start1.below0, start1.atStart⟩
end Jvm.Pilot.@@N@@
