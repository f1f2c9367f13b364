import JvmDerived
import JvmDerived.Pilot.@@N@@Statement
import JvmDerived.Pilot.@@N@@Code
set_option linter.unusedVariables false
set_option linter.unusedSimpArgs false
namespace Jvm.Pilot.@@N@@
open Jvm Jvm.ClassFile Sem Op Lib Jvm.Free Jvm.Stand Jvm.LawKit Jvm.RoadKit Bundle Jvm.Pilot.@@N@@.Jvm.D
/-- from S on the run ends as Q says -/
def own_Go (p : Program) (e : Env) (below : List Frame) (s : State) (Q : Option Value → Heap → List Loc → Prop) (k n : Nat) (S : State) : Prop :=
  ∃ s₂ o, Steps p.tables e below S s₂ ∧ s₂.status = .running ∧ Ended s₂ below o ∧ ∃ v L, o = .returned v ∧ Q v s₂.heap L ∧ FrameEnd s o s₂ L k n
/-- the goal, as a predicate that is closed under steps -/
theorem own_abs (p : Program) (e : Env) (below : List Frame) (s : State) (Q : Option Value → Heap → List Loc → Prop) (k n : Nat) :
    ∃ G : State → Prop, (∀ {S : State}, G S → own_Go p e below s Q k n S) ∧ (∀ {S S' : State}, (∀ t, Steps p.tables e below S' t → Steps p.tables e below S t) → G S' → G S) ∧ (∀ {S : State}, own_Go p e below s Q k n S → G S) :=
  ⟨own_Go p e below s Q k n, fun h => h, fun h g => by obtain ⟨s2, o, h1, r⟩ := g; exact ⟨s2, o, h _ h1, r⟩, fun h => h⟩
section OwnEnd
variable {p : Program} {l : Launch} {e : Env} {R : Room} {s : State} {m : MethodId} {args : Array Value} {below : List Frame} {meth : Method} {c : Code} {T : State} {locs : List Loc} {cells slots : Nat} {Q : Option Value → Heap → List Loc → Prop} {k n : Nat}
theorem own_goRet (X : Stand p l e R s m args below meth c T locs cells slots) (hx : p.tables.exec = Jvm.exec) {pc : Nat} {Ls : Array Slot} {w : Value} {t : FieldType} {i : Instr} {rest : List Value} (hret : meth.sig.returnType = some t) (hn : narrow t w = w)
    (hi : (i = .ireturn ∧ (t = .int ∨ t = .boolean ∨ t = .byte ∨ t = .char ∨ t = .short) ∧ ∃ z, w = .int z) ∨ (i = .lreturn ∧ t = .long ∧ ∃ z, w = .long z) ∨ (i = .dreturn ∧ t = .double ∧ ∃ z, w = .double z) ∨ (i = .freturn ∧ t = .float ∧ ∃ z, w = .float z) ∨ (i = .areturn ∧ t.isReference = true ∧ w.isRef = true))
    (hd : decode c.code pc = .ok (i, 1)) (hlk : meth.locks = false) (hQ : Q (some w) T.heap locs) (hk : cells ≤ k) (hn' : slots ≤ n) : own_Go p e below s Q k n (T.setTop (mkF m pc Ls (w :: rest))) := by
  obtain ⟨fs, hr, hrun, hended, hW, hsame⟩ := X.leave (v := some w) (fun h => by rw [hret] at h; cases h) hlk
  exact ⟨_, _, retOut X hx hret hn hi hd hr, hrun, hended, _, _, rfl, hQ, ⟨_, rfl⟩, hW, hsame.mono hk hn'⟩
theorem own_goVoid (X : Stand p l e R s m args below meth c T locs cells slots) (hx : p.tables.exec = Jvm.exec) {pc : Nat} {Ls : Array Slot} (hret : meth.sig.returnType = none)
    (hd : decode c.code pc = .ok (.return_, 1)) (hlk : meth.locks = false) (hQ : Q none T.heap locs) (hk : cells ≤ k) (hn' : slots ≤ n) : own_Go p e below s Q k n (T.setTop (mkF m pc Ls [])) := by
  obtain ⟨fs, hr, hrun, hended, hW, hsame⟩ := X.leave (v := none) (fun _ => rfl) hlk
  exact ⟨_, _, X.returnOut hx hret hd hr, hrun, hended, _, _, rfl, hQ, ⟨_, rfl⟩, hW, hsame.mono hk hn'⟩
end OwnEnd
section OwnStep
variable {p : Program} {e : Env} {below : List Frame} {G : State → Prop} {T : State} {m : MethodId} {c : Code} {pc pc' : Nat} {Ls Lt : Array Slot} {st : List Value}
/-- G is closed under steps -/
abbrev OwnCl (p : Program) (e : Env) (below : List Frame) (G : State → Prop) : Prop := ∀ {S S' : State}, (∀ t, Steps p.tables e below S' t → Steps p.tables e below S t) → G S' → G S
theorem o_iloadN (hst : OwnCl p e below G) (h : At T m c below) (hx : p.tables.exec = Jvm.exec) {n : Fin 4} {v : Int32} (hd : decode c.code pc = .ok (.iload_n n, 1)) (hp : pc + 1 = pc') (hl : Ls[n.val]? = some (.val (.int v))) (k : G (T.setTop (mkF m pc' Ls (.int v :: st)))) : G (T.setTop (mkF m pc Ls (st))) := by
  subst hp; exact hst (fun _ kt => XS.iloadN h hx rfl hd hl kt) k
theorem o_iload (hst : OwnCl p e below G) (h : At T m c below) (hx : p.tables.exec = Jvm.exec) {n : Nat} {v : Int32} (hd : decode c.code pc = .ok (.iload n, 2)) (hp : pc + 2 = pc') (hl : Ls[n]? = some (.val (.int v))) (k : G (T.setTop (mkF m pc' Ls (.int v :: st)))) : G (T.setTop (mkF m pc Ls (st))) := by
  subst hp; exact hst (fun _ kt => XS.iload h hx rfl hd hl kt) k
theorem o_lloadN (hst : OwnCl p e below G) (h : At T m c below) (hx : p.tables.exec = Jvm.exec) {n : Fin 4} {v : Int64} (hd : decode c.code pc = .ok (.lload_n n, 1)) (hp : pc + 1 = pc') (hl : Ls[n.val]? = some (.val (.long v))) (k : G (T.setTop (mkF m pc' Ls (.long v :: st)))) : G (T.setTop (mkF m pc Ls (st))) := by
  subst hp; exact hst (fun _ kt => XS.lloadN h hx rfl hd hl kt) k
theorem o_lload (hst : OwnCl p e below G) (h : At T m c below) (hx : p.tables.exec = Jvm.exec) {n : Nat} {v : Int64} (hd : decode c.code pc = .ok (.lload n, 2)) (hp : pc + 2 = pc') (hl : Ls[n]? = some (.val (.long v))) (k : G (T.setTop (mkF m pc' Ls (.long v :: st)))) : G (T.setTop (mkF m pc Ls (st))) := by
  subst hp; exact hst (fun _ kt => XS.lload h hx rfl hd hl kt) k
theorem o_floadN (hst : OwnCl p e below G) (h : At T m c below) (hx : p.tables.exec = Jvm.exec) {n : Fin 4} {v : UInt32} (hd : decode c.code pc = .ok (.fload_n n, 1)) (hp : pc + 1 = pc') (hl : Ls[n.val]? = some (.val (.float v))) (k : G (T.setTop (mkF m pc' Ls (.float v :: st)))) : G (T.setTop (mkF m pc Ls (st))) := by
  subst hp; exact hst (fun _ kt => XS.floadN h hx rfl hd hl kt) k
theorem o_fload (hst : OwnCl p e below G) (h : At T m c below) (hx : p.tables.exec = Jvm.exec) {n : Nat} {v : UInt32} (hd : decode c.code pc = .ok (.fload n, 2)) (hp : pc + 2 = pc') (hl : Ls[n]? = some (.val (.float v))) (k : G (T.setTop (mkF m pc' Ls (.float v :: st)))) : G (T.setTop (mkF m pc Ls (st))) := by
  subst hp; exact hst (fun _ kt => XS.fload h hx rfl hd hl kt) k
theorem o_aloadN (hst : OwnCl p e below G) (h : At T m c below) (hx : p.tables.exec = Jvm.exec) {n : Fin 4} {v : Value} (hd : decode c.code pc = .ok (.aload_n n, 1)) (hp : pc + 1 = pc') (hl : Ls[n.val]? = some (.val v)) (hv : v.isRef = true) (k : G (T.setTop (mkF m pc' Ls (v :: st)))) : G (T.setTop (mkF m pc Ls (st))) := by
  subst hp; exact hst (fun _ kt => XS.aloadN h hx rfl hd hl hv kt) k
theorem o_aload (hst : OwnCl p e below G) (h : At T m c below) (hx : p.tables.exec = Jvm.exec) {n : Nat} {v : Value} (hd : decode c.code pc = .ok (.aload n, 2)) (hp : pc + 2 = pc') (hl : Ls[n]? = some (.val v)) (hv : v.isRef = true) (k : G (T.setTop (mkF m pc' Ls (v :: st)))) : G (T.setTop (mkF m pc Ls (st))) := by
  subst hp; exact hst (fun _ kt => XS.aload h hx rfl hd hl hv kt) k
theorem o_istoreN (hst : OwnCl p e below G) (h : At T m c below) (hx : p.tables.exec = Jvm.exec) {n : Fin 4} {v : Int32} (hd : decode c.code pc = .ok (.istore_n n, 1)) (hp : pc + 1 = pc') (hl : storeLocals Ls n.val (.int v) = some Lt) (k : G (T.setTop (mkF m pc' Lt (st)))) : G (T.setTop (mkF m pc Ls (.int v :: st))) := by
  subst hp; exact hst (fun _ kt => XS.istoreN h hx rfl hd rfl hl kt) k
theorem o_istore (hst : OwnCl p e below G) (h : At T m c below) (hx : p.tables.exec = Jvm.exec) {n : Nat} {v : Int32} (hd : decode c.code pc = .ok (.istore n, 2)) (hp : pc + 2 = pc') (hl : storeLocals Ls n (.int v) = some Lt) (k : G (T.setTop (mkF m pc' Lt (st)))) : G (T.setTop (mkF m pc Ls (.int v :: st))) := by
  subst hp; exact hst (fun _ kt => XS.istore h hx rfl hd rfl hl kt) k
theorem o_lstoreN (hst : OwnCl p e below G) (h : At T m c below) (hx : p.tables.exec = Jvm.exec) {n : Fin 4} {v : Int64} (hd : decode c.code pc = .ok (.lstore_n n, 1)) (hp : pc + 1 = pc') (hl : storeLocals Ls n.val (.long v) = some Lt) (k : G (T.setTop (mkF m pc' Lt (st)))) : G (T.setTop (mkF m pc Ls (.long v :: st))) := by
  subst hp; exact hst (fun _ kt => XS.lstoreN h hx rfl hd rfl hl kt) k
theorem o_lstore (hst : OwnCl p e below G) (h : At T m c below) (hx : p.tables.exec = Jvm.exec) {n : Nat} {v : Int64} (hd : decode c.code pc = .ok (.lstore n, 2)) (hp : pc + 2 = pc') (hl : storeLocals Ls n (.long v) = some Lt) (k : G (T.setTop (mkF m pc' Lt (st)))) : G (T.setTop (mkF m pc Ls (.long v :: st))) := by
  subst hp; exact hst (fun _ kt => XS.lstore h hx rfl hd rfl hl kt) k
theorem o_astoreN (hst : OwnCl p e below G) (h : At T m c below) (hx : p.tables.exec = Jvm.exec) {n : Fin 4} {v : Value} (hd : decode c.code pc = .ok (.astore_n n, 1)) (hp : pc + 1 = pc') (hv : v.isRef = true) (hl : storeLocals Ls n.val v = some Lt) (k : G (T.setTop (mkF m pc' Lt (st)))) : G (T.setTop (mkF m pc Ls (v :: st))) := by
  subst hp; exact hst (fun _ kt => XS.astoreN h hx rfl hd rfl hv hl kt) k
theorem o_astore (hst : OwnCl p e below G) (h : At T m c below) (hx : p.tables.exec = Jvm.exec) {n : Nat} {v : Value} (hd : decode c.code pc = .ok (.astore n, 2)) (hp : pc + 2 = pc') (hv : v.isRef = true) (hl : storeLocals Ls n v = some Lt) (k : G (T.setTop (mkF m pc' Lt (st)))) : G (T.setTop (mkF m pc Ls (v :: st))) := by
  subst hp; exact hst (fun _ kt => XS.astore h hx rfl hd rfl hv hl kt) k
theorem o_iconst (hst : OwnCl p e below G) (h : At T m c below) (hx : p.tables.exec = Jvm.exec) {i : Int} {z : Int32} (hd : decode c.code pc = .ok (.iconst i, 1)) (hp : pc + 1 = pc') (hz : Int32.ofInt i = z) (k : G (T.setTop (mkF m pc' Ls (.int z :: st)))) : G (T.setTop (mkF m pc Ls (st))) := by
  subst hp hz; exact hst (fun _ kt => XS.iconst h hx rfl hd kt) k
theorem o_bipush (hst : OwnCl p e below G) (h : At T m c below) (hx : p.tables.exec = Jvm.exec) {i : Int} {z : Int32} (hd : decode c.code pc = .ok (.bipush i, 2)) (hp : pc + 2 = pc') (hz : (Int8.ofInt i).toInt32 = z) (k : G (T.setTop (mkF m pc' Ls (.int z :: st)))) : G (T.setTop (mkF m pc Ls (st))) := by
  subst hp hz; exact hst (fun _ kt => XS.bipush h hx rfl hd kt) k
theorem o_sipush (hst : OwnCl p e below G) (h : At T m c below) (hx : p.tables.exec = Jvm.exec) {i : Int} {z : Int32} (hd : decode c.code pc = .ok (.sipush i, 3)) (hp : pc + 3 = pc') (hz : (Int16.ofInt i).toInt32 = z) (k : G (T.setTop (mkF m pc' Ls (.int z :: st)))) : G (T.setTop (mkF m pc Ls (st))) := by
  subst hp hz; exact hst (fun _ kt => XS.sipush h hx rfl hd kt) k
theorem o_lconst (hst : OwnCl p e below G) (h : At T m c below) (hx : p.tables.exec = Jvm.exec) {i : Fin 2} {z : Int64} (hd : decode c.code pc = .ok (.lconst i, 1)) (hp : pc + 1 = pc') (hz : Int64.ofNat i = z) (k : G (T.setTop (mkF m pc' Ls (.long z :: st)))) : G (T.setTop (mkF m pc Ls (st))) := by
  subst hp hz; exact hst (fun _ kt => XS.lconst h hx rfl hd kt) k
theorem o_aconstNull (hst : OwnCl p e below G) (h : At T m c below) (hx : p.tables.exec = Jvm.exec)  (hd : decode c.code pc = .ok (.aconst_null, 1)) (hp : pc + 1 = pc') (k : G (T.setTop (mkF m pc' Ls (.null :: st)))) : G (T.setTop (mkF m pc Ls (st))) := by
  subst hp; exact hst (fun _ kt => XS.aconstNull h hx rfl hd kt) k
theorem o_iadd (hst : OwnCl p e below G) (h : At T m c below) (hx : p.tables.exec = Jvm.exec) {x y : Int32} (hd : decode c.code pc = .ok (.iadd, 1)) (hp : pc + 1 = pc') (k : G (T.setTop (mkF m pc' Ls (.int (x + y) :: st)))) : G (T.setTop (mkF m pc Ls (.int y :: .int x :: st))) := by
  subst hp; exact hst (fun _ kt => XS.iadd h hx rfl hd rfl kt) k
theorem o_ladd (hst : OwnCl p e below G) (h : At T m c below) (hx : p.tables.exec = Jvm.exec) {x y : Int64} (hd : decode c.code pc = .ok (.ladd, 1)) (hp : pc + 1 = pc') (k : G (T.setTop (mkF m pc' Ls (.long (x + y) :: st)))) : G (T.setTop (mkF m pc Ls (.long y :: .long x :: st))) := by
  subst hp; exact hst (fun _ kt => XS.ladd h hx rfl hd rfl kt) k
theorem o_isub (hst : OwnCl p e below G) (h : At T m c below) (hx : p.tables.exec = Jvm.exec) {x y : Int32} (hd : decode c.code pc = .ok (.isub, 1)) (hp : pc + 1 = pc') (k : G (T.setTop (mkF m pc' Ls (.int (x - y) :: st)))) : G (T.setTop (mkF m pc Ls (.int y :: .int x :: st))) := by
  subst hp; exact hst (fun _ kt => XS.isub h hx rfl hd rfl kt) k
theorem o_lsub (hst : OwnCl p e below G) (h : At T m c below) (hx : p.tables.exec = Jvm.exec) {x y : Int64} (hd : decode c.code pc = .ok (.lsub, 1)) (hp : pc + 1 = pc') (k : G (T.setTop (mkF m pc' Ls (.long (x - y) :: st)))) : G (T.setTop (mkF m pc Ls (.long y :: .long x :: st))) := by
  subst hp; exact hst (fun _ kt => XS.lsub h hx rfl hd rfl kt) k
theorem o_imul (hst : OwnCl p e below G) (h : At T m c below) (hx : p.tables.exec = Jvm.exec) {x y : Int32} (hd : decode c.code pc = .ok (.imul, 1)) (hp : pc + 1 = pc') (k : G (T.setTop (mkF m pc' Ls (.int (x * y) :: st)))) : G (T.setTop (mkF m pc Ls (.int y :: .int x :: st))) := by
  subst hp; exact hst (fun _ kt => XS.imul h hx rfl hd rfl kt) k
theorem o_lmul (hst : OwnCl p e below G) (h : At T m c below) (hx : p.tables.exec = Jvm.exec) {x y : Int64} (hd : decode c.code pc = .ok (.lmul, 1)) (hp : pc + 1 = pc') (k : G (T.setTop (mkF m pc' Ls (.long (x * y) :: st)))) : G (T.setTop (mkF m pc Ls (.long y :: .long x :: st))) := by
  subst hp; exact hst (fun _ kt => XS.lmul h hx rfl hd rfl kt) k
theorem o_iand (hst : OwnCl p e below G) (h : At T m c below) (hx : p.tables.exec = Jvm.exec) {x y : Int32} (hd : decode c.code pc = .ok (.iand, 1)) (hp : pc + 1 = pc') (k : G (T.setTop (mkF m pc' Ls (.int (x &&& y) :: st)))) : G (T.setTop (mkF m pc Ls (.int y :: .int x :: st))) := by
  subst hp; exact hst (fun _ kt => XS.iand h hx rfl hd rfl kt) k
theorem o_land (hst : OwnCl p e below G) (h : At T m c below) (hx : p.tables.exec = Jvm.exec) {x y : Int64} (hd : decode c.code pc = .ok (.land, 1)) (hp : pc + 1 = pc') (k : G (T.setTop (mkF m pc' Ls (.long (x &&& y) :: st)))) : G (T.setTop (mkF m pc Ls (.long y :: .long x :: st))) := by
  subst hp; exact hst (fun _ kt => XS.land h hx rfl hd rfl kt) k
theorem o_ior (hst : OwnCl p e below G) (h : At T m c below) (hx : p.tables.exec = Jvm.exec) {x y : Int32} (hd : decode c.code pc = .ok (.ior, 1)) (hp : pc + 1 = pc') (k : G (T.setTop (mkF m pc' Ls (.int (x ||| y) :: st)))) : G (T.setTop (mkF m pc Ls (.int y :: .int x :: st))) := by
  subst hp; exact hst (fun _ kt => XS.ior h hx rfl hd rfl kt) k
theorem o_lor (hst : OwnCl p e below G) (h : At T m c below) (hx : p.tables.exec = Jvm.exec) {x y : Int64} (hd : decode c.code pc = .ok (.lor, 1)) (hp : pc + 1 = pc') (k : G (T.setTop (mkF m pc' Ls (.long (x ||| y) :: st)))) : G (T.setTop (mkF m pc Ls (.long y :: .long x :: st))) := by
  subst hp; exact hst (fun _ kt => XS.lor h hx rfl hd rfl kt) k
theorem o_ixor (hst : OwnCl p e below G) (h : At T m c below) (hx : p.tables.exec = Jvm.exec) {x y : Int32} (hd : decode c.code pc = .ok (.ixor, 1)) (hp : pc + 1 = pc') (k : G (T.setTop (mkF m pc' Ls (.int (x ^^^ y) :: st)))) : G (T.setTop (mkF m pc Ls (.int y :: .int x :: st))) := by
  subst hp; exact hst (fun _ kt => XS.ixor h hx rfl hd rfl kt) k
theorem o_lxor (hst : OwnCl p e below G) (h : At T m c below) (hx : p.tables.exec = Jvm.exec) {x y : Int64} (hd : decode c.code pc = .ok (.lxor, 1)) (hp : pc + 1 = pc') (k : G (T.setTop (mkF m pc' Ls (.long (x ^^^ y) :: st)))) : G (T.setTop (mkF m pc Ls (.long y :: .long x :: st))) := by
  subst hp; exact hst (fun _ kt => XS.lxor h hx rfl hd rfl kt) k
theorem o_ineg (hst : OwnCl p e below G) (h : At T m c below) (hx : p.tables.exec = Jvm.exec) {x : Int32} (hd : decode c.code pc = .ok (.ineg, 1)) (hp : pc + 1 = pc') (k : G (T.setTop (mkF m pc' Ls (.int (-x) :: st)))) : G (T.setTop (mkF m pc Ls (.int x :: st))) := by
  subst hp; exact hst (fun _ kt => XS.ineg h hx rfl hd rfl kt) k
theorem o_lneg (hst : OwnCl p e below G) (h : At T m c below) (hx : p.tables.exec = Jvm.exec) {x : Int64} (hd : decode c.code pc = .ok (.lneg, 1)) (hp : pc + 1 = pc') (k : G (T.setTop (mkF m pc' Ls (.long (-x) :: st)))) : G (T.setTop (mkF m pc Ls (.long x :: st))) := by
  subst hp; exact hst (fun _ kt => XS.lneg h hx rfl hd rfl kt) k
theorem o_i2l (hst : OwnCl p e below G) (h : At T m c below) (hx : p.tables.exec = Jvm.exec) {x : Int32} (hd : decode c.code pc = .ok (.i2l, 1)) (hp : pc + 1 = pc') (k : G (T.setTop (mkF m pc' Ls (.long (x.toInt64) :: st)))) : G (T.setTop (mkF m pc Ls (.int x :: st))) := by
  subst hp; exact hst (fun _ kt => XS.i2l h hx rfl hd rfl kt) k
theorem o_l2i (hst : OwnCl p e below G) (h : At T m c below) (hx : p.tables.exec = Jvm.exec) {x : Int64} (hd : decode c.code pc = .ok (.l2i, 1)) (hp : pc + 1 = pc') (k : G (T.setTop (mkF m pc' Ls (.int (x.toInt32) :: st)))) : G (T.setTop (mkF m pc Ls (.long x :: st))) := by
  subst hp; exact hst (fun _ kt => XS.l2i h hx rfl hd rfl kt) k
theorem o_i2b (hst : OwnCl p e below G) (h : At T m c below) (hx : p.tables.exec = Jvm.exec) {x : Int32} (hd : decode c.code pc = .ok (.i2b, 1)) (hp : pc + 1 = pc') (k : G (T.setTop (mkF m pc' Ls (.int (x.toInt8.toInt32) :: st)))) : G (T.setTop (mkF m pc Ls (.int x :: st))) := by
  subst hp; exact hst (fun _ kt => XS.i2b h hx rfl hd rfl kt) k
theorem o_i2s (hst : OwnCl p e below G) (h : At T m c below) (hx : p.tables.exec = Jvm.exec) {x : Int32} (hd : decode c.code pc = .ok (.i2s, 1)) (hp : pc + 1 = pc') (k : G (T.setTop (mkF m pc' Ls (.int (x.toInt16.toInt32) :: st)))) : G (T.setTop (mkF m pc Ls (.int x :: st))) := by
  subst hp; exact hst (fun _ kt => XS.i2s h hx rfl hd rfl kt) k
theorem o_i2c (hst : OwnCl p e below G) (h : At T m c below) (hx : p.tables.exec = Jvm.exec) {x : Int32} (hd : decode c.code pc = .ok (.i2c, 1)) (hp : pc + 1 = pc') (k : G (T.setTop (mkF m pc' Ls (.int (x.toUInt32.toUInt16.toUInt32.toInt32) :: st)))) : G (T.setTop (mkF m pc Ls (.int x :: st))) := by
  subst hp; exact hst (fun _ kt => XS.i2c h hx rfl hd rfl kt) k
theorem o_ishl (hst : OwnCl p e below G) (h : At T m c below) (hx : p.tables.exec = Jvm.exec) {x : Int32} {y : Int32} (hd : decode c.code pc = .ok (.ishl, 1)) (hp : pc + 1 = pc') (k : G (T.setTop (mkF m pc' Ls (.int (x <<< (y &&& 31)) :: st)))) : G (T.setTop (mkF m pc Ls (.int y :: .int x :: st))) := by
  subst hp; exact hst (fun _ kt => XS.ishl h hx rfl hd rfl kt) k
theorem o_ishr (hst : OwnCl p e below G) (h : At T m c below) (hx : p.tables.exec = Jvm.exec) {x : Int32} {y : Int32} (hd : decode c.code pc = .ok (.ishr, 1)) (hp : pc + 1 = pc') (k : G (T.setTop (mkF m pc' Ls (.int (x >>> (y &&& 31)) :: st)))) : G (T.setTop (mkF m pc Ls (.int y :: .int x :: st))) := by
  subst hp; exact hst (fun _ kt => XS.ishr h hx rfl hd rfl kt) k
theorem o_iushr (hst : OwnCl p e below G) (h : At T m c below) (hx : p.tables.exec = Jvm.exec) {x : Int32} {y : Int32} (hd : decode c.code pc = .ok (.iushr, 1)) (hp : pc + 1 = pc') (k : G (T.setTop (mkF m pc' Ls (.int ((x.toUInt32 >>> (y &&& 31).toUInt32).toInt32) :: st)))) : G (T.setTop (mkF m pc Ls (.int y :: .int x :: st))) := by
  subst hp; exact hst (fun _ kt => XS.iushr h hx rfl hd rfl kt) k
theorem o_lshl (hst : OwnCl p e below G) (h : At T m c below) (hx : p.tables.exec = Jvm.exec) {x : Int64} {y : Int32} (hd : decode c.code pc = .ok (.lshl, 1)) (hp : pc + 1 = pc') (k : G (T.setTop (mkF m pc' Ls (.long (x <<< (y &&& 0x3f).toInt64) :: st)))) : G (T.setTop (mkF m pc Ls (.int y :: .long x :: st))) := by
  subst hp; exact hst (fun _ kt => XS.lshl h hx rfl hd rfl kt) k
theorem o_lshr (hst : OwnCl p e below G) (h : At T m c below) (hx : p.tables.exec = Jvm.exec) {x : Int64} {y : Int32} (hd : decode c.code pc = .ok (.lshr, 1)) (hp : pc + 1 = pc') (k : G (T.setTop (mkF m pc' Ls (.long (x >>> (y &&& 0x3f).toInt64) :: st)))) : G (T.setTop (mkF m pc Ls (.int y :: .long x :: st))) := by
  subst hp; exact hst (fun _ kt => XS.lshr h hx rfl hd rfl kt) k
theorem o_lushr (hst : OwnCl p e below G) (h : At T m c below) (hx : p.tables.exec = Jvm.exec) {x : Int64} {y : Int32} (hd : decode c.code pc = .ok (.lushr, 1)) (hp : pc + 1 = pc') (k : G (T.setTop (mkF m pc' Ls (.long ((x.toUInt64 >>> (y &&& 0x3f).toInt64.toUInt64).toInt64) :: st)))) : G (T.setTop (mkF m pc Ls (.int y :: .long x :: st))) := by
  subst hp; exact hst (fun _ kt => XS.lushr h hx rfl hd rfl kt) k
theorem o_lcmp (hst : OwnCl p e below G) (h : At T m c below) (hx : p.tables.exec = Jvm.exec) {x y : Int64} (hd : decode c.code pc = .ok (.lcmp, 1)) (hp : pc + 1 = pc') (k : G (T.setTop (mkF m pc' Ls (.int (lcmpW x y) :: st)))) : G (T.setTop (mkF m pc Ls (.long y :: .long x :: st))) := by
  subst hp; exact hst (fun _ kt => XS.lcmp h hx rfl hd rfl kt) k
theorem o_iinc (hst : OwnCl p e below G) (h : At T m c below) (hx : p.tables.exec = Jvm.exec) {n : Nat} {i : Int} {v : Int32} (hd : decode c.code pc = .ok (.iinc n i, 3)) (hp : pc + 3 = pc') (hl : Ls[n]? = some (.val (.int v))) (hs : storeLocals Ls n (.int (v + Int32.ofInt i)) = some Lt) (k : G (T.setTop (mkF m pc' Lt (st)))) : G (T.setTop (mkF m pc Ls (st))) := by
  subst hp; exact hst (fun _ kt => XS.iinc h hx rfl hd hl hs kt) k
theorem o_dup (hst : OwnCl p e below G) (h : At T m c below) (hx : p.tables.exec = Jvm.exec) {v : Value} (hd : decode c.code pc = .ok (.dup, 1)) (hp : pc + 1 = pc') (hc : v.category = 1) (k : G (T.setTop (mkF m pc' Ls (v :: v :: st)))) : G (T.setTop (mkF m pc Ls (v :: st))) := by
  subst hp; exact hst (fun _ kt => XS.dup h hx rfl hd rfl hc kt) k
theorem o_pop (hst : OwnCl p e below G) (h : At T m c below) (hx : p.tables.exec = Jvm.exec) {v : Value} (hd : decode c.code pc = .ok (.pop, 1)) (hp : pc + 1 = pc') (hc : v.category = 1) (k : G (T.setTop (mkF m pc' Ls (st)))) : G (T.setTop (mkF m pc Ls (v :: st))) := by
  subst hp; exact hst (fun _ kt => XS.pop h hx rfl hd rfl hc kt) k
theorem o_goto (hst : OwnCl p e below G) (h : At T m c below) (hx : p.tables.exec = Jvm.exec) {o : Int} (hd : decode c.code pc = .ok (.goto o, 3)) (ho : 0 ≤ (pc : Int) + o) (hp : ((pc : Int) + o).toNat = pc') (k : G (T.setTop (mkF m pc' Ls st))) : G (T.setTop (mkF m pc Ls st)) := hst (fun _ kt => XS.goto h hx rfl rfl hd ho hp kt) k
end OwnStep
abbrev own_TT : String := "com/example/weser/weser/core/TripleTable"
abbrev own_RG : String := "com/example/weser/weser/core/RdfGraph"
abbrev own_PX : String := "com/example/weser/weser/core/Prefixes"
abbrev own_MB : String := "com/example/weser/weser/core/Memberships"
theorem own_nf {s : State} {args : Array Value} {y y1 : MethodName} (h : NotFace s y1) (hc : y1.cls = y.cls) (w : (Jvm.Cond.instanceMethod y1).before args s = true) : NotFace s y := fun r0 h0 => by
  obtain ⟨mk, meth, hn, -⟩ := Cond.instanceMethod_spec w
  obtain ⟨kr, hk, hi⟩ := h mk hn
  have e1 := findClass_of_methodNamed hn
  have e2 := findClass_of_methodNamed h0
  rw [hc] at e1
  have e : mk.cls = r0.cls := Option.some.inj (e1.symm.trans e2)
  exact ⟨kr, by rw [← e]; exact hk, hi⟩
theorem own_ne_arv {Z : State} {h : Heap} {a b : Addr} {C : String} {a0 : Array Value} {kk : Nat} {k : ClassId} {ty : FieldType} {z : Int32} {vs : List Value} {dv : Value} (E : Exa Z h a C) (wi : (Jvm.Cond.instantiable C kk).before a0 Z = true) (V : Arv Z h b k ty z vs dv) : a ≠ b := by
  obtain ⟨c, A, -⟩ := V
  exact ne_arr E wi A
theorem own_ne_arh {Z : State} {h : Heap} {a b : Addr} {C : String} {a0 : Array Value} {kk : Nat} {k : ClassId} {ty : FieldType} {z : Int32} {hs : List (Int32 × Value)} {vs : List Value} {dv : Value} (E : Exa Z h a C) (wi : (Jvm.Cond.instantiable C kk).before a0 Z = true) (V : Arh Z h b k ty z hs vs dv) : a ≠ b := by
  obtain ⟨c, A, -⟩ := V
  exact ne_arr E wi A
theorem own_Sta_keep {Z : State} {h h' : Heap} {C n d : String} {v : Value} (F : Sta Z h C n d v) (K : Keep h h' []) : Sta Z h' C n d v := by
  obtain ⟨cf, i, k, f, st, cell, h1, h2, h3, h4, h5, r⟩ := F
  exact ⟨cf, i, k, f, st, cell, h1, h2, h3, h4, K.2.1 _ _ h5 nin0, r⟩
theorem own_Sta_keepL {Z : State} {h h' : Heap} {C n d : String} {v : Value} {ws : List Addr} (F : Sta Z h C n d v) (K : Keep h h' ws) (q : ∀ x ∈ ws, ∃ D, Exa Z h x D) : Sta Z h' C n d v := by
  obtain ⟨cf, i, k, f, st, cell, h1, h2, h3, h4, h5, h6, r⟩ := F
  have nq : st ∉ ws := fun z => by
    obtain ⟨D, c1, k1, e1, -, -, e4, -⟩ := q _ z
    cases e1.symm.trans h5
    rw [h6] at e4; cases e4
  exact ⟨cf, i, k, f, st, cell, h1, h2, h3, h4, K.2.1 _ _ h5 nq, h6, r⟩
def own_QI (r : Int32) (h0 : Heap) (n0 : Nat) (v : Option Value) (h : Heap) (L : List Loc) : Prop := v = some (.int r) ∧ Fr n0 L ∧ h = h0
def own_QR (r : Value) (h0 : Heap) (n0 : Nat) (v : Option Value) (h : Heap) (L : List Loc) : Prop := v = some r ∧ Fr n0 L ∧ h = h0
def own_QV (h0 : Heap) (n0 : Nat) (v : Option Value) (h : Heap) (L : List Loc) : Prop := v = none ∧ Fr n0 L ∧ h = h0
def own_Q0 (n0 : Nat) (v : Option Value) (h : Heap) (L : List Loc) : Prop := v = some (.int (1 : Int32)) ∧ Fr n0 L
def own_ch (y : Int32) : Int32 := (y &&& (255 : Int32)).toUInt32.toUInt16.toUInt32.toInt32
theorem own_ch_le (y : Int32) : ¬ (255 : Int32) < own_ch y := by
  have h1 := c_mask y 255 8 (by decide) (by decide)
  simp only [Nat.reducePow] at h1
  have h2 := c_i2c (y &&& (255 : Int32))
  unfold own_ch
  rw [Int32.lt_iff_toInt_lt, show (255 : Int32).toInt = 255 from rfl]; omega
def own_In (n : Int32) : Prop := n = 0 ∨ n = 1 ∨ n = 2 ∨ n = 3
theorem own_In_and (n : Int32) : own_In (n &&& (3 : Int32)) := by
  have h := c_mask n 3 2 (by decide) (by decide)
  simp only [Nat.reducePow] at h
  have h3 : (n &&& (3 : Int32)).toInt = 0 ∨ (n &&& (3 : Int32)).toInt = 1 ∨ (n &&& (3 : Int32)).toInt = 2 ∨ (n &&& (3 : Int32)).toInt = 3 := by omega
  rcases h3 with h | h | h | h
  · exact Or.inl (Int32.toInt_inj.mp h)
  · exact Or.inr (Or.inl (Int32.toInt_inj.mp h))
  · exact Or.inr (Or.inr (Or.inl (Int32.toInt_inj.mp h)))
  · exact Or.inr (Or.inr (Or.inr (Int32.toInt_inj.mp h)))
theorem own_In_lo {o : Int32} (h : own_In o) : ¬ o < 0 := by rcases h with rfl | rfl | rfl | rfl <;> decide
theorem own_In_hi {o : Int32} (h : own_In o) : o < (4 : Int32) := by rcases h with rfl | rfl | rfl | rfl <;> decide
def own_T3 (n : Int32) : Prop := n = 0 ∨ n = 1 ∨ n = 2
theorem own_t3 (q : Int32) : own_T3 ((q &&& (2147483647 : Int32)) % (3 : Int32)) := by
  have h := c_mask q 2147483647 31 (by decide) (by decide)
  simp only [Nat.reducePow] at h
  have h1 := (c_irem (q &&& (2147483647 : Int32)) 3 3 rfl).1 (by omega)
  have h3 : ((q &&& (2147483647 : Int32)) % (3 : Int32)).toInt = 0 ∨ ((q &&& (2147483647 : Int32)) % (3 : Int32)).toInt = 1 ∨ ((q &&& (2147483647 : Int32)) % (3 : Int32)).toInt = 2 := by omega
  rcases h3 with h | h | h
  · exact Or.inl (Int32.toInt_inj.mp h)
  · exact Or.inr (Or.inl (Int32.toInt_inj.mp h))
  · exact Or.inr (Or.inr (Int32.toInt_inj.mp h))
def own_hx (s p o : Int32) : Int32 := ((s * (-1640531527 : Int32)) + (p * (2146121005 : Int32))) + (o * (-2073254261 : Int32))
def own_hash (s p o : Int32) : Int32 := own_hx s p o ^^^ ((own_hx s p o).toUInt32 >>> ((16 : Int32) &&& 31).toUInt32).toInt32
def own_sl (s o : Int32) : Int32 := own_hash s (0 : Int32) o &&& (2047 : Int32)
theorem own_sl_rng (s o : Int32) : ¬ own_sl s o < 0 ∧ own_sl s o < (2048 : Int32) := by
  have h := c_mask (own_hash s (0 : Int32) o) 2047 11 (by decide) (by decide)
  simp only [Nat.reducePow] at h
  unfold own_sl
  rw [Int32.lt_iff_toInt_lt, Int32.lt_iff_toInt_lt, show (0 : Int32).toInt = 0 from rfl, show (2048 : Int32).toInt = 2048 from rfl]
  constructor <;> omega
theorem own_sl10 {o0 o1 : Int32} (h0 : own_In o0) (h1 : own_In o1) : ¬ own_sl 1 o1 = own_sl 0 o0 := by
  rcases h0 with rfl | rfl | rfl | rfl <;> rcases h1 with rfl | rfl | rfl | rfl <;> decide +kernel
theorem own_sl20 {o0 o2 : Int32} (h0 : own_In o0) (h2 : own_In o2) : ¬ own_sl 2 o2 = own_sl 0 o0 := by
  rcases h0 with rfl | rfl | rfl | rfl <;> rcases h2 with rfl | rfl | rfl | rfl <;> decide +kernel
theorem own_sl21 {o1 o2 : Int32} (h1 : own_In o1) (h2 : own_In o2) : ¬ own_sl 2 o2 = own_sl 1 o1 := by
  rcases h1 with rfl | rfl | rfl | rfl <;> rcases h2 with rfl | rfl | rfl | rfl <;> decide +kernel
theorem own_get3 (v0 v1 v2 d : Value) (i : Nat) : getH [((2 : Int32), v2), ((1 : Int32), v1), ((0 : Int32), v0)] [] d i = ([v0, v1, v2] : List Value).getD i d := by
  match i with
  | 0 => rfl
  | 1 => rfl
  | 2 => rfl
  | i + 3 =>
    simp only [getH, show (2 : Int32).toInt = 2 from rfl, show (1 : Int32).toInt = 1 from rfl, show (0 : Int32).toInt = 0 from rfl]
    rw [if_neg (by omega), if_neg (by omega), if_neg (by omega)]
    simp
theorem own_arv3 {Z : State} {h : Heap} {a : Addr} {k : ClassId} {ty : FieldType} {z : Int32} {v0 v1 v2 dv : Value} (F : Arh Z h a k ty z [((2 : Int32), v2), ((1 : Int32), v1), ((0 : Int32), v0)] [] dv) : Arv Z h a k ty z [v0, v1, v2] dv := by
  obtain ⟨c, A, q, S, M, H, G⟩ := F
  exact ⟨c, A, q, S, M, fun i hi => by rw [← own_get3]; exact H i hi, fun i hi => by rw [← own_get3]; exact G i hi⟩
theorem own_pick {Z : State} {h : Heap} {o : Int32} {r0 r1 r2 r3 : Addr} {C : String} (ho : own_In o) (E0 : Exa Z h r0 C) (E1 : Exa Z h r1 C) (E2 : Exa Z h r2 C) (E3 : Exa Z h r3 C) :
    ∃ rr : Addr, ([(.ref r0), (.ref r1), (.ref r2), (.ref r3)] : List Value).getD o.toNatClampNeg .null = .ref rr ∧ Exa Z h rr C := by
  rcases ho with rfl | rfl | rfl | rfl
  · exact ⟨r0, rfl, E0⟩
  · exact ⟨r1, rfl, E1⟩
  · exact ⟨r2, rfl, E2⟩
  · exact ⟨r3, rfl, E3⟩
theorem own_w0 {Z : State} {a0 : Array Value} (hw : ∀ d ∈ tables_1, d.before a0 Z = true) : Jvm.Cond.before (Jvm.Cond.classLink x.cls (7 : Nat) "java/lang/String") a0 Z = true := hw _ (List.mem_of_getElem? (i := 0) rfl)
theorem own_w1 {Z : State} {a0 : Array Value} (hw : ∀ d ∈ tables_1, d.before a0 Z = true) : Jvm.Cond.before (Jvm.Cond.arrayOver (Jvm.ClassFile.FieldType.object "java/lang/String")) a0 Z = true := hw _ (List.mem_of_getElem? (i := 1) rfl)
theorem own_w2 {Z : State} {a0 : Array Value} (hw : ∀ d ∈ tables_1, d.before a0 Z = true) : Jvm.Cond.before (Jvm.Cond.methodLink x.cls (9 : Nat) ({ cls := "java/lang/String", name := "valueOf", desc := "(C)Ljava/lang/String;" } : Jvm.MethodName)) a0 Z = true := hw _ (List.mem_of_getElem? (i := 2) rfl)
theorem own_w3 {Z : State} {a0 : Array Value} (hw : ∀ d ∈ tables_1, d.before a0 Z = true) : Jvm.Cond.before (Jvm.Cond.static ({ cls := "java/lang/String", name := "valueOf", desc := "(C)Ljava/lang/String;" } : Jvm.MethodName)) a0 Z = true := hw _ (List.mem_of_getElem? (i := 3) rfl)
theorem own_w4 {Z : State} {a0 : Array Value} (hw : ∀ d ∈ tables_1, d.before a0 Z = true) : Jvm.Cond.before (Jvm.Cond.initialized "java/lang/String") a0 Z = true := hw _ (List.mem_of_getElem? (i := 4) rfl)
theorem own_w5 {Z : State} {a0 : Array Value} (hw : ∀ d ∈ tables_1, d.before a0 Z = true) : Jvm.Cond.before (Jvm.Cond.code ({ cls := "java/lang/String", name := "valueOf", desc := "(C)Ljava/lang/String;" } : Jvm.MethodName) jdk_42_method_139_code (1 : Nat) (Option.some (Jvm.ClassFile.FieldType.object "java/lang/String"))) a0 Z = true := hw _ (List.mem_of_getElem? (i := 5) rfl)
theorem own_w6 {Z : State} {a0 : Array Value} (hw : ∀ d ∈ tables_1, d.before a0 Z = true) : Jvm.Cond.before (Jvm.Cond.fieldLink "java/lang/String" (38 : Nat) "java/lang/String" "COMPACT_STRINGS" "Z") a0 Z = true := hw _ (List.mem_of_getElem? (i := 6) rfl)
theorem own_w7 {Z : State} {a0 : Array Value} (hw : ∀ d ∈ tables_1, d.before a0 Z = true) : Jvm.Cond.before (Jvm.Cond.methodLink "java/lang/String" (1015 : Nat) ({ cls := "java/lang/StringLatin1", name := "canEncode", desc := "(C)Z" } : Jvm.MethodName)) a0 Z = true := hw _ (List.mem_of_getElem? (i := 7) rfl)
theorem own_w8 {Z : State} {a0 : Array Value} (hw : ∀ d ∈ tables_1, d.before a0 Z = true) : Jvm.Cond.before (Jvm.Cond.static ({ cls := "java/lang/StringLatin1", name := "canEncode", desc := "(C)Z" } : Jvm.MethodName)) a0 Z = true := hw _ (List.mem_of_getElem? (i := 8) rfl)
theorem own_w9 {Z : State} {a0 : Array Value} (hw : ∀ d ∈ tables_1, d.before a0 Z = true) : Jvm.Cond.before (Jvm.Cond.initialized "java/lang/StringLatin1") a0 Z = true := hw _ (List.mem_of_getElem? (i := 9) rfl)
theorem own_w10 {Z : State} {a0 : Array Value} (hw : ∀ d ∈ tables_1, d.before a0 Z = true) : Jvm.Cond.before (Jvm.Cond.code ({ cls := "java/lang/StringLatin1", name := "canEncode", desc := "(C)Z" } : Jvm.MethodName) jdk_43_method_3_code (1 : Nat) (Option.some Jvm.ClassFile.FieldType.boolean)) a0 Z = true := hw _ (List.mem_of_getElem? (i := 10) rfl)
theorem own_w11 {Z : State} {a0 : Array Value} (hw : ∀ d ∈ tables_1, d.before a0 Z = true) : Jvm.Cond.before (Jvm.Cond.classLink "java/lang/String" (10 : Nat) "java/lang/String") a0 Z = true := hw _ (List.mem_of_getElem? (i := 11) rfl)
theorem own_w12 {Z : State} {a0 : Array Value} (hw : ∀ d ∈ tables_1, d.before a0 Z = true) : Jvm.Cond.before (Jvm.Cond.instantiable "java/lang/String" (4 : Nat)) a0 Z = true := hw _ (List.mem_of_getElem? (i := 12) rfl)
theorem own_w13 {Z : State} {a0 : Array Value} (hw : ∀ d ∈ tables_1, d.before a0 Z = true) : Jvm.Cond.before (Jvm.Cond.methodLink "java/lang/String" (1018 : Nat) ({ cls := "java/lang/StringLatin1", name := "toBytes", desc := "(C)[B" } : Jvm.MethodName)) a0 Z = true := hw _ (List.mem_of_getElem? (i := 13) rfl)
theorem own_w14 {Z : State} {a0 : Array Value} (hw : ∀ d ∈ tables_1, d.before a0 Z = true) : Jvm.Cond.before (Jvm.Cond.static ({ cls := "java/lang/StringLatin1", name := "toBytes", desc := "(C)[B" } : Jvm.MethodName)) a0 Z = true := hw _ (List.mem_of_getElem? (i := 14) rfl)
theorem own_w15 {Z : State} {a0 : Array Value} (hw : ∀ d ∈ tables_1, d.before a0 Z = true) : Jvm.Cond.before (Jvm.Cond.code ({ cls := "java/lang/StringLatin1", name := "toBytes", desc := "(C)[B" } : Jvm.MethodName) jdk_43_method_46_code (1 : Nat) (Option.some (Jvm.ClassFile.FieldType.array Jvm.ClassFile.FieldType.byte))) a0 Z = true := hw _ (List.mem_of_getElem? (i := 15) rfl)
theorem own_w16 {Z : State} {a0 : Array Value} (hw : ∀ d ∈ tables_1, d.before a0 Z = true) : Jvm.Cond.before (Jvm.Cond.arrayClass Jvm.ClassFile.FieldType.byte) a0 Z = true := hw _ (List.mem_of_getElem? (i := 16) rfl)
theorem own_w17 {Z : State} {a0 : Array Value} (hw : ∀ d ∈ tables_1, d.before a0 Z = true) : Jvm.Cond.before (Jvm.Cond.methodLink "java/lang/String" (209 : Nat) ({ cls := "java/lang/String", name := "<init>", desc := "([BB)V" } : Jvm.MethodName)) a0 Z = true := hw _ (List.mem_of_getElem? (i := 17) rfl)
theorem own_w18 {Z : State} {a0 : Array Value} (hw : ∀ d ∈ tables_1, d.before a0 Z = true) : Jvm.Cond.before (Jvm.Cond.instanceMethod ({ cls := "java/lang/String", name := "<init>", desc := "([BB)V" } : Jvm.MethodName)) a0 Z = true := hw _ (List.mem_of_getElem? (i := 18) rfl)
theorem own_w20 {Z : State} {a0 : Array Value} (hw : ∀ d ∈ tables_1, d.before a0 Z = true) : Jvm.Cond.before (Jvm.Cond.code ({ cls := "java/lang/String", name := "<init>", desc := "([BB)V" } : Jvm.MethodName) jdk_42_method_151_code (3 : Nat) (Option.none : Option Jvm.ClassFile.FieldType)) a0 Z = true := hw _ (List.mem_of_getElem? (i := 20) rfl)
theorem own_w21 {Z : State} {a0 : Array Value} (hw : ∀ d ∈ tables_1, d.before a0 Z = true) : Jvm.Cond.before (Jvm.Cond.methodLink "java/lang/String" (1 : Nat) ({ cls := "java/lang/Object", name := "<init>", desc := "()V" } : Jvm.MethodName)) a0 Z = true := hw _ (List.mem_of_getElem? (i := 21) rfl)
theorem own_w22 {Z : State} {a0 : Array Value} (hw : ∀ d ∈ tables_1, d.before a0 Z = true) : Jvm.Cond.before (Jvm.Cond.instanceMethod ({ cls := "java/lang/Object", name := "<init>", desc := "()V" } : Jvm.MethodName)) a0 Z = true := hw _ (List.mem_of_getElem? (i := 22) rfl)
theorem own_w23 {Z : State} {a0 : Array Value} (hw : ∀ d ∈ tables_1, d.before a0 Z = true) : Jvm.Cond.before (Jvm.Cond.code ({ cls := "java/lang/Object", name := "<init>", desc := "()V" } : Jvm.MethodName) object_method_1_code (1 : Nat) (Option.none : Option Jvm.ClassFile.FieldType)) a0 Z = true := hw _ (List.mem_of_getElem? (i := 23) rfl)
theorem own_w24 {Z : State} {a0 : Array Value} (hw : ∀ d ∈ tables_1, d.before a0 Z = true) : Jvm.Cond.before (Jvm.Cond.fieldLink "java/lang/String" (9 : Nat) "java/lang/String" "value" "[B") a0 Z = true := hw _ (List.mem_of_getElem? (i := 24) rfl)
theorem own_w25 {Z : State} {a0 : Array Value} (hw : ∀ d ∈ tables_1, d.before a0 Z = true) : Jvm.Cond.before (Jvm.Cond.laysFinal "java/lang/String" "java/lang/String" "value" "[B") a0 Z = true := hw _ (List.mem_of_getElem? (i := 25) rfl)
theorem own_w26 {Z : State} {a0 : Array Value} (hw : ∀ d ∈ tables_1, d.before a0 Z = true) : Jvm.Cond.before (Jvm.Cond.fieldLink "java/lang/String" (15 : Nat) "java/lang/String" "coder" "B") a0 Z = true := hw _ (List.mem_of_getElem? (i := 26) rfl)
theorem own_w27 {Z : State} {a0 : Array Value} (hw : ∀ d ∈ tables_1, d.before a0 Z = true) : Jvm.Cond.before (Jvm.Cond.laysFinal "java/lang/String" "java/lang/String" "coder" "B") a0 Z = true := hw _ (List.mem_of_getElem? (i := 27) rfl)
theorem own_w28 {Z : State} {a0 : Array Value} (hw : ∀ d ∈ tables_1, d.before a0 Z = true) : Jvm.Cond.before (Jvm.Cond.constant x.cls (13 : Nat) (2147483647 : Int32)) a0 Z = true := hw _ (List.mem_of_getElem? (i := 28) rfl)
theorem own_w29 {Z : State} {a0 : Array Value} (hw : ∀ d ∈ tables_1, d.before a0 Z = true) : Jvm.Cond.before (Jvm.Cond.classLink x.cls (14 : Nat) own_TT) a0 Z = true := hw _ (List.mem_of_getElem? (i := 29) rfl)
theorem own_w30 {Z : State} {a0 : Array Value} (hw : ∀ d ∈ tables_1, d.before a0 Z = true) : Jvm.Cond.before (Jvm.Cond.instantiable own_TT (7 : Nat)) a0 Z = true := hw _ (List.mem_of_getElem? (i := 30) rfl)
theorem own_w31 {Z : State} {a0 : Array Value} (hw : ∀ d ∈ tables_1, d.before a0 Z = true) : Jvm.Cond.before (Jvm.Cond.initialized own_TT) a0 Z = true := hw _ (List.mem_of_getElem? (i := 31) rfl)
theorem own_w32 {Z : State} {a0 : Array Value} (hw : ∀ d ∈ tables_1, d.before a0 Z = true) : Jvm.Cond.before (Jvm.Cond.methodLink x.cls (16 : Nat) ({ cls := own_TT, name := "<init>", desc := "()V" } : Jvm.MethodName)) a0 Z = true := hw _ (List.mem_of_getElem? (i := 32) rfl)
theorem own_w33 {Z : State} {a0 : Array Value} (hw : ∀ d ∈ tables_1, d.before a0 Z = true) : Jvm.Cond.before (Jvm.Cond.instanceMethod ({ cls := own_TT, name := "<init>", desc := "()V" } : Jvm.MethodName)) a0 Z = true := hw _ (List.mem_of_getElem? (i := 33) rfl)
theorem own_w34 {Z : State} {a0 : Array Value} (hw : ∀ d ∈ tables_1, d.before a0 Z = true) : Jvm.Cond.before (Jvm.Cond.code ({ cls := own_TT, name := "<init>", desc := "()V" } : Jvm.MethodName) prog_37_method_1_code (1 : Nat) (Option.none : Option Jvm.ClassFile.FieldType)) a0 Z = true := hw _ (List.mem_of_getElem? (i := 34) rfl)
theorem own_w35 {Z : State} {a0 : Array Value} (hw : ∀ d ∈ tables_1, d.before a0 Z = true) : Jvm.Cond.before (Jvm.Cond.methodLink own_TT (1 : Nat) ({ cls := "java/lang/Object", name := "<init>", desc := "()V" } : Jvm.MethodName)) a0 Z = true := hw _ (List.mem_of_getElem? (i := 35) rfl)
theorem own_w36 {Z : State} {a0 : Array Value} (hw : ∀ d ∈ tables_1, d.before a0 Z = true) : Jvm.Cond.before (Jvm.Cond.arrayClass Jvm.ClassFile.FieldType.int) a0 Z = true := hw _ (List.mem_of_getElem? (i := 36) rfl)
theorem own_w37 {Z : State} {a0 : Array Value} (hw : ∀ d ∈ tables_1, d.before a0 Z = true) : Jvm.Cond.before (Jvm.Cond.fieldLink own_TT (9 : Nat) own_TT "subjects" "[I") a0 Z = true := hw _ (List.mem_of_getElem? (i := 37) rfl)
theorem own_w38 {Z : State} {a0 : Array Value} (hw : ∀ d ∈ tables_1, d.before a0 Z = true) : Jvm.Cond.before (Jvm.Cond.lays own_TT own_TT "subjects" "[I") a0 Z = true := hw _ (List.mem_of_getElem? (i := 38) rfl)
theorem own_w39 {Z : State} {a0 : Array Value} (hw : ∀ d ∈ tables_1, d.before a0 Z = true) : Jvm.Cond.before (Jvm.Cond.fieldLink own_TT (13 : Nat) own_TT "predicates" "[I") a0 Z = true := hw _ (List.mem_of_getElem? (i := 39) rfl)
theorem own_w40 {Z : State} {a0 : Array Value} (hw : ∀ d ∈ tables_1, d.before a0 Z = true) : Jvm.Cond.before (Jvm.Cond.lays own_TT own_TT "predicates" "[I") a0 Z = true := hw _ (List.mem_of_getElem? (i := 40) rfl)
theorem own_w41 {Z : State} {a0 : Array Value} (hw : ∀ d ∈ tables_1, d.before a0 Z = true) : Jvm.Cond.before (Jvm.Cond.fieldLink own_TT (16 : Nat) own_TT "objects" "[I") a0 Z = true := hw _ (List.mem_of_getElem? (i := 41) rfl)
theorem own_w42 {Z : State} {a0 : Array Value} (hw : ∀ d ∈ tables_1, d.before a0 Z = true) : Jvm.Cond.before (Jvm.Cond.lays own_TT own_TT "objects" "[I") a0 Z = true := hw _ (List.mem_of_getElem? (i := 42) rfl)
theorem own_w43 {Z : State} {a0 : Array Value} (hw : ∀ d ∈ tables_1, d.before a0 Z = true) : Jvm.Cond.before (Jvm.Cond.fieldLink own_TT (19 : Nat) own_TT "firstGraphs" "[I") a0 Z = true := hw _ (List.mem_of_getElem? (i := 43) rfl)
theorem own_w44 {Z : State} {a0 : Array Value} (hw : ∀ d ∈ tables_1, d.before a0 Z = true) : Jvm.Cond.before (Jvm.Cond.lays own_TT own_TT "firstGraphs" "[I") a0 Z = true := hw _ (List.mem_of_getElem? (i := 44) rfl)
theorem own_w45 {Z : State} {a0 : Array Value} (hw : ∀ d ∈ tables_1, d.before a0 Z = true) : Jvm.Cond.before (Jvm.Cond.classLink own_TT (22 : Nat) "java/util/LinkedHashSet") a0 Z = true := hw _ (List.mem_of_getElem? (i := 45) rfl)
theorem own_w46 {Z : State} {a0 : Array Value} (hw : ∀ d ∈ tables_1, d.before a0 Z = true) : Jvm.Cond.before (Jvm.Cond.instantiable "java/util/LinkedHashSet" (1 : Nat)) a0 Z = true := hw _ (List.mem_of_getElem? (i := 46) rfl)
theorem own_w47 {Z : State} {a0 : Array Value} (hw : ∀ d ∈ tables_1, d.before a0 Z = true) : Jvm.Cond.before (Jvm.Cond.initialized "java/util/LinkedHashSet") a0 Z = true := hw _ (List.mem_of_getElem? (i := 47) rfl)
theorem own_w48 {Z : State} {a0 : Array Value} (hw : ∀ d ∈ tables_1, d.before a0 Z = true) : Jvm.Cond.before (Jvm.Cond.methodLink own_TT (24 : Nat) ({ cls := "java/util/LinkedHashSet", name := "<init>", desc := "()V" } : Jvm.MethodName)) a0 Z = true := hw _ (List.mem_of_getElem? (i := 48) rfl)
theorem own_w49 {Z : State} {a0 : Array Value} (hw : ∀ d ∈ tables_1, d.before a0 Z = true) : Jvm.Cond.before (Jvm.Cond.instanceMethod ({ cls := "java/util/LinkedHashSet", name := "<init>", desc := "()V" } : Jvm.MethodName)) a0 Z = true := hw _ (List.mem_of_getElem? (i := 49) rfl)
theorem own_w50 {Z : State} {a0 : Array Value} (hw : ∀ d ∈ tables_1, d.before a0 Z = true) : Jvm.Cond.before (Jvm.Cond.code ({ cls := "java/util/LinkedHashSet", name := "<init>", desc := "()V" } : Jvm.MethodName) jdk_2620_method_3_code (1 : Nat) (Option.none : Option Jvm.ClassFile.FieldType)) a0 Z = true := hw _ (List.mem_of_getElem? (i := 50) rfl)
theorem own_w51 {Z : State} {a0 : Array Value} (hw : ∀ d ∈ tables_1, d.before a0 Z = true) : Jvm.Cond.before (Jvm.Cond.constantFloat "java/util/LinkedHashSet" (7 : Nat) (1061158912 : UInt32)) a0 Z = true := hw _ (List.mem_of_getElem? (i := 51) rfl)
theorem own_w52 {Z : State} {a0 : Array Value} (hw : ∀ d ∈ tables_1, d.before a0 Z = true) : Jvm.Cond.before (Jvm.Cond.methodLink "java/util/LinkedHashSet" (1 : Nat) ({ cls := "java/util/HashSet", name := "<init>", desc := "(IFZ)V" } : Jvm.MethodName)) a0 Z = true := hw _ (List.mem_of_getElem? (i := 52) rfl)
theorem own_w53 {Z : State} {a0 : Array Value} (hw : ∀ d ∈ tables_1, d.before a0 Z = true) : Jvm.Cond.before (Jvm.Cond.instanceMethod ({ cls := "java/util/HashSet", name := "<init>", desc := "(IFZ)V" } : Jvm.MethodName)) a0 Z = true := hw _ (List.mem_of_getElem? (i := 53) rfl)
theorem own_w56 {Z : State} {a0 : Array Value} (hw : ∀ d ∈ tables_1, d.before a0 Z = true) : Jvm.Cond.before (Jvm.Cond.initialized "java/util/HashSet") a0 Z = true := hw _ (List.mem_of_getElem? (i := 56) rfl)
theorem own_w57 {Z : State} {a0 : Array Value} (hw : ∀ d ∈ tables_1, d.before a0 Z = true) : Jvm.Cond.before (Jvm.Cond.code ({ cls := "java/util/HashSet", name := "<init>", desc := "(IFZ)V" } : Jvm.MethodName) jdk_93_method_5_code (4 : Nat) (Option.none : Option Jvm.ClassFile.FieldType)) a0 Z = true := hw _ (List.mem_of_getElem? (i := 57) rfl)
theorem own_w58 {Z : State} {a0 : Array Value} (hw : ∀ d ∈ tables_1, d.before a0 Z = true) : Jvm.Cond.before (Jvm.Cond.methodLink "java/util/HashSet" (1 : Nat) ({ cls := "java/util/AbstractSet", name := "<init>", desc := "()V" } : Jvm.MethodName)) a0 Z = true := hw _ (List.mem_of_getElem? (i := 58) rfl)
theorem own_w59 {Z : State} {a0 : Array Value} (hw : ∀ d ∈ tables_1, d.before a0 Z = true) : Jvm.Cond.before (Jvm.Cond.instanceMethod ({ cls := "java/util/AbstractSet", name := "<init>", desc := "()V" } : Jvm.MethodName)) a0 Z = true := hw _ (List.mem_of_getElem? (i := 59) rfl)
theorem own_w62 {Z : State} {a0 : Array Value} (hw : ∀ d ∈ tables_1, d.before a0 Z = true) : Jvm.Cond.before (Jvm.Cond.initialized "java/util/AbstractSet") a0 Z = true := hw _ (List.mem_of_getElem? (i := 62) rfl)
theorem own_w63 {Z : State} {a0 : Array Value} (hw : ∀ d ∈ tables_1, d.before a0 Z = true) : Jvm.Cond.before (Jvm.Cond.code ({ cls := "java/util/AbstractSet", name := "<init>", desc := "()V" } : Jvm.MethodName) jdk_91_method_1_code (1 : Nat) (Option.none : Option Jvm.ClassFile.FieldType)) a0 Z = true := hw _ (List.mem_of_getElem? (i := 63) rfl)
theorem own_w64 {Z : State} {a0 : Array Value} (hw : ∀ d ∈ tables_1, d.before a0 Z = true) : Jvm.Cond.before (Jvm.Cond.methodLink "java/util/AbstractSet" (1 : Nat) ({ cls := "java/util/AbstractCollection", name := "<init>", desc := "()V" } : Jvm.MethodName)) a0 Z = true := hw _ (List.mem_of_getElem? (i := 64) rfl)
theorem own_w65 {Z : State} {a0 : Array Value} (hw : ∀ d ∈ tables_1, d.before a0 Z = true) : Jvm.Cond.before (Jvm.Cond.instanceMethod ({ cls := "java/util/AbstractCollection", name := "<init>", desc := "()V" } : Jvm.MethodName)) a0 Z = true := hw _ (List.mem_of_getElem? (i := 65) rfl)
theorem own_w68 {Z : State} {a0 : Array Value} (hw : ∀ d ∈ tables_1, d.before a0 Z = true) : Jvm.Cond.before (Jvm.Cond.initialized "java/util/AbstractCollection") a0 Z = true := hw _ (List.mem_of_getElem? (i := 68) rfl)
theorem own_w69 {Z : State} {a0 : Array Value} (hw : ∀ d ∈ tables_1, d.before a0 Z = true) : Jvm.Cond.before (Jvm.Cond.code ({ cls := "java/util/AbstractCollection", name := "<init>", desc := "()V" } : Jvm.MethodName) jdk_22_method_1_code (1 : Nat) (Option.none : Option Jvm.ClassFile.FieldType)) a0 Z = true := hw _ (List.mem_of_getElem? (i := 69) rfl)
theorem own_w70 {Z : State} {a0 : Array Value} (hw : ∀ d ∈ tables_1, d.before a0 Z = true) : Jvm.Cond.before (Jvm.Cond.methodLink "java/util/AbstractCollection" (1 : Nat) ({ cls := "java/lang/Object", name := "<init>", desc := "()V" } : Jvm.MethodName)) a0 Z = true := hw _ (List.mem_of_getElem? (i := 70) rfl)
theorem own_w71 {Z : State} {a0 : Array Value} (hw : ∀ d ∈ tables_1, d.before a0 Z = true) : Jvm.Cond.before (Jvm.Cond.classLink "java/util/HashSet" (42 : Nat) "java/util/LinkedHashMap") a0 Z = true := hw _ (List.mem_of_getElem? (i := 71) rfl)
theorem own_w72 {Z : State} {a0 : Array Value} (hw : ∀ d ∈ tables_1, d.before a0 Z = true) : Jvm.Cond.before (Jvm.Cond.instantiable "java/util/LinkedHashMap" (12 : Nat)) a0 Z = true := hw _ (List.mem_of_getElem? (i := 72) rfl)
theorem own_w73 {Z : State} {a0 : Array Value} (hw : ∀ d ∈ tables_1, d.before a0 Z = true) : Jvm.Cond.before (Jvm.Cond.initialized "java/util/LinkedHashMap") a0 Z = true := hw _ (List.mem_of_getElem? (i := 73) rfl)
theorem own_w74 {Z : State} {a0 : Array Value} (hw : ∀ d ∈ tables_1, d.before a0 Z = true) : Jvm.Cond.before (Jvm.Cond.methodLink "java/util/HashSet" (44 : Nat) ({ cls := "java/util/LinkedHashMap", name := "<init>", desc := "(IF)V" } : Jvm.MethodName)) a0 Z = true := hw _ (List.mem_of_getElem? (i := 74) rfl)
theorem own_w75 {Z : State} {a0 : Array Value} (hw : ∀ d ∈ tables_1, d.before a0 Z = true) : Jvm.Cond.before (Jvm.Cond.instanceMethod ({ cls := "java/util/LinkedHashMap", name := "<init>", desc := "(IF)V" } : Jvm.MethodName)) a0 Z = true := hw _ (List.mem_of_getElem? (i := 75) rfl)
theorem own_w77 {Z : State} {a0 : Array Value} (hw : ∀ d ∈ tables_1, d.before a0 Z = true) : Jvm.Cond.before (Jvm.Cond.code ({ cls := "java/util/LinkedHashMap", name := "<init>", desc := "(IF)V" } : Jvm.MethodName) jdk_94_method_14_code (3 : Nat) (Option.none : Option Jvm.ClassFile.FieldType)) a0 Z = true := hw _ (List.mem_of_getElem? (i := 77) rfl)
theorem own_w78 {Z : State} {a0 : Array Value} (hw : ∀ d ∈ tables_1, d.before a0 Z = true) : Jvm.Cond.before (Jvm.Cond.methodLink "java/util/LinkedHashMap" (81 : Nat) ({ cls := "java/util/HashMap", name := "<init>", desc := "(IF)V" } : Jvm.MethodName)) a0 Z = true := hw _ (List.mem_of_getElem? (i := 78) rfl)
theorem own_w79 {Z : State} {a0 : Array Value} (hw : ∀ d ∈ tables_1, d.before a0 Z = true) : Jvm.Cond.before (Jvm.Cond.instanceMethod ({ cls := "java/util/HashMap", name := "<init>", desc := "(IF)V" } : Jvm.MethodName)) a0 Z = true := hw _ (List.mem_of_getElem? (i := 79) rfl)
theorem own_w82 {Z : State} {a0 : Array Value} (hw : ∀ d ∈ tables_1, d.before a0 Z = true) : Jvm.Cond.before (Jvm.Cond.initialized "java/util/HashMap") a0 Z = true := hw _ (List.mem_of_getElem? (i := 82) rfl)
theorem own_w83 {Z : State} {a0 : Array Value} (hw : ∀ d ∈ tables_1, d.before a0 Z = true) : Jvm.Cond.before (Jvm.Cond.code ({ cls := "java/util/HashMap", name := "<init>", desc := "(IF)V" } : Jvm.MethodName) jdk_69_method_5_code (3 : Nat) (Option.none : Option Jvm.ClassFile.FieldType)) a0 Z = true := hw _ (List.mem_of_getElem? (i := 83) rfl)
theorem own_w84 {Z : State} {a0 : Array Value} (hw : ∀ d ∈ tables_1, d.before a0 Z = true) : Jvm.Cond.before (Jvm.Cond.methodLink "java/util/HashMap" (43 : Nat) ({ cls := "java/util/AbstractMap", name := "<init>", desc := "()V" } : Jvm.MethodName)) a0 Z = true := hw _ (List.mem_of_getElem? (i := 84) rfl)
theorem own_w85 {Z : State} {a0 : Array Value} (hw : ∀ d ∈ tables_1, d.before a0 Z = true) : Jvm.Cond.before (Jvm.Cond.instanceMethod ({ cls := "java/util/AbstractMap", name := "<init>", desc := "()V" } : Jvm.MethodName)) a0 Z = true := hw _ (List.mem_of_getElem? (i := 85) rfl)
theorem own_w88 {Z : State} {a0 : Array Value} (hw : ∀ d ∈ tables_1, d.before a0 Z = true) : Jvm.Cond.before (Jvm.Cond.initialized "java/util/AbstractMap") a0 Z = true := hw _ (List.mem_of_getElem? (i := 88) rfl)
theorem own_w89 {Z : State} {a0 : Array Value} (hw : ∀ d ∈ tables_1, d.before a0 Z = true) : Jvm.Cond.before (Jvm.Cond.code ({ cls := "java/util/AbstractMap", name := "<init>", desc := "()V" } : Jvm.MethodName) jdk_71_method_1_code (1 : Nat) (Option.none : Option Jvm.ClassFile.FieldType)) a0 Z = true := hw _ (List.mem_of_getElem? (i := 89) rfl)
theorem own_w90 {Z : State} {a0 : Array Value} (hw : ∀ d ∈ tables_1, d.before a0 Z = true) : Jvm.Cond.before (Jvm.Cond.methodLink "java/util/AbstractMap" (1 : Nat) ({ cls := "java/lang/Object", name := "<init>", desc := "()V" } : Jvm.MethodName)) a0 Z = true := hw _ (List.mem_of_getElem? (i := 90) rfl)
theorem own_w91 {Z : State} {a0 : Array Value} (hw : ∀ d ∈ tables_1, d.before a0 Z = true) : Jvm.Cond.before (Jvm.Cond.constant "java/util/HashMap" (42 : Nat) (1073741824 : Int32)) a0 Z = true := hw _ (List.mem_of_getElem? (i := 91) rfl)
theorem own_w92 {Z : State} {a0 : Array Value} (hw : ∀ d ∈ tables_1, d.before a0 Z = true) : Jvm.Cond.before (Jvm.Cond.methodLink "java/util/HashMap" (70 : Nat) ({ cls := "java/lang/Float", name := "isNaN", desc := "(F)Z" } : Jvm.MethodName)) a0 Z = true := hw _ (List.mem_of_getElem? (i := 92) rfl)
theorem own_w93 {Z : State} {a0 : Array Value} (hw : ∀ d ∈ tables_1, d.before a0 Z = true) : Jvm.Cond.before (Jvm.Cond.static ({ cls := "java/lang/Float", name := "isNaN", desc := "(F)Z" } : Jvm.MethodName)) a0 Z = true := hw _ (List.mem_of_getElem? (i := 93) rfl)
theorem own_w94 {Z : State} {a0 : Array Value} (hw : ∀ d ∈ tables_1, d.before a0 Z = true) : Jvm.Cond.before (Jvm.Cond.initialized "java/lang/Float") a0 Z = true := hw _ (List.mem_of_getElem? (i := 94) rfl)
theorem own_w95 {Z : State} {a0 : Array Value} (hw : ∀ d ∈ tables_1, d.before a0 Z = true) : Jvm.Cond.before (Jvm.Cond.code ({ cls := "java/lang/Float", name := "isNaN", desc := "(F)Z" } : Jvm.MethodName) jdk_118_method_6_code (1 : Nat) (Option.some Jvm.ClassFile.FieldType.boolean)) a0 Z = true := hw _ (List.mem_of_getElem? (i := 95) rfl)
theorem own_w96 {Z : State} {a0 : Array Value} (hw : ∀ d ∈ tables_1, d.before a0 Z = true) : Jvm.Cond.before (Jvm.Cond.fieldLink "java/util/HashMap" (81 : Nat) "java/util/HashMap" "loadFactor" "F") a0 Z = true := hw _ (List.mem_of_getElem? (i := 96) rfl)
theorem own_w97 {Z : State} {a0 : Array Value} (hw : ∀ d ∈ tables_1, d.before a0 Z = true) : Jvm.Cond.before (Jvm.Cond.laysFinal "java/util/LinkedHashMap" "java/util/HashMap" "loadFactor" "F") a0 Z = true := hw _ (List.mem_of_getElem? (i := 97) rfl)
theorem own_w98 {Z : State} {a0 : Array Value} (hw : ∀ d ∈ tables_1, d.before a0 Z = true) : Jvm.Cond.before (Jvm.Cond.methodLink "java/util/HashMap" (85 : Nat) ({ cls := "java/util/HashMap", name := "tableSizeFor", desc := "(I)I" } : Jvm.MethodName)) a0 Z = true := hw _ (List.mem_of_getElem? (i := 98) rfl)
theorem own_w99 {Z : State} {a0 : Array Value} (hw : ∀ d ∈ tables_1, d.before a0 Z = true) : Jvm.Cond.before (Jvm.Cond.static ({ cls := "java/util/HashMap", name := "tableSizeFor", desc := "(I)I" } : Jvm.MethodName)) a0 Z = true := hw _ (List.mem_of_getElem? (i := 99) rfl)
theorem own_w100 {Z : State} {a0 : Array Value} (hw : ∀ d ∈ tables_1, d.before a0 Z = true) : Jvm.Cond.before (Jvm.Cond.code ({ cls := "java/util/HashMap", name := "tableSizeFor", desc := "(I)I" } : Jvm.MethodName) jdk_69_method_4_code (2 : Nat) (Option.some Jvm.ClassFile.FieldType.int)) a0 Z = true := hw _ (List.mem_of_getElem? (i := 100) rfl)
theorem own_w101 {Z : State} {a0 : Array Value} (hw : ∀ d ∈ tables_1, d.before a0 Z = true) : Jvm.Cond.before (Jvm.Cond.methodLink "java/util/HashMap" (34 : Nat) ({ cls := "java/lang/Integer", name := "numberOfLeadingZeros", desc := "(I)I" } : Jvm.MethodName)) a0 Z = true := hw _ (List.mem_of_getElem? (i := 101) rfl)
theorem own_w102 {Z : State} {a0 : Array Value} (hw : ∀ d ∈ tables_1, d.before a0 Z = true) : Jvm.Cond.before (Jvm.Cond.static ({ cls := "java/lang/Integer", name := "numberOfLeadingZeros", desc := "(I)I" } : Jvm.MethodName)) a0 Z = true := hw _ (List.mem_of_getElem? (i := 102) rfl)
theorem own_w103 {Z : State} {a0 : Array Value} (hw : ∀ d ∈ tables_1, d.before a0 Z = true) : Jvm.Cond.before (Jvm.Cond.initialized "java/lang/Integer") a0 Z = true := hw _ (List.mem_of_getElem? (i := 103) rfl)
theorem own_w104 {Z : State} {a0 : Array Value} (hw : ∀ d ∈ tables_1, d.before a0 Z = true) : Jvm.Cond.before (Jvm.Cond.code ({ cls := "java/lang/Integer", name := "numberOfLeadingZeros", desc := "(I)I" } : Jvm.MethodName) jdk_33_method_47_code (2 : Nat) (Option.some Jvm.ClassFile.FieldType.int)) a0 Z = true := hw _ (List.mem_of_getElem? (i := 104) rfl)
theorem own_w105 {Z : State} {a0 : Array Value} (hw : ∀ d ∈ tables_1, d.before a0 Z = true) : Jvm.Cond.before (Jvm.Cond.constant "java/lang/Integer" (264 : Nat) (65536 : Int32)) a0 Z = true := hw _ (List.mem_of_getElem? (i := 105) rfl)
theorem own_w106 {Z : State} {a0 : Array Value} (hw : ∀ d ∈ tables_1, d.before a0 Z = true) : Jvm.Cond.before (Jvm.Cond.fieldLink "java/util/HashMap" (88 : Nat) "java/util/HashMap" "threshold" "I") a0 Z = true := hw _ (List.mem_of_getElem? (i := 106) rfl)
theorem own_w107 {Z : State} {a0 : Array Value} (hw : ∀ d ∈ tables_1, d.before a0 Z = true) : Jvm.Cond.before (Jvm.Cond.lays "java/util/LinkedHashMap" "java/util/HashMap" "threshold" "I") a0 Z = true := hw _ (List.mem_of_getElem? (i := 107) rfl)
theorem own_w108 {Z : State} {a0 : Array Value} (hw : ∀ d ∈ tables_1, d.before a0 Z = true) : Jvm.Cond.before (Jvm.Cond.fieldLink "java/util/LinkedHashMap" (1 : Nat) "java/util/LinkedHashMap" "putMode" "I") a0 Z = true := hw _ (List.mem_of_getElem? (i := 108) rfl)
theorem own_w109 {Z : State} {a0 : Array Value} (hw : ∀ d ∈ tables_1, d.before a0 Z = true) : Jvm.Cond.before (Jvm.Cond.lays "java/util/LinkedHashMap" "java/util/LinkedHashMap" "putMode" "I") a0 Z = true := hw _ (List.mem_of_getElem? (i := 109) rfl)
theorem own_w110 {Z : State} {a0 : Array Value} (hw : ∀ d ∈ tables_1, d.before a0 Z = true) : Jvm.Cond.before (Jvm.Cond.fieldLink "java/util/LinkedHashMap" (64 : Nat) "java/util/LinkedHashMap" "accessOrder" "Z") a0 Z = true := hw _ (List.mem_of_getElem? (i := 110) rfl)
theorem own_w111 {Z : State} {a0 : Array Value} (hw : ∀ d ∈ tables_1, d.before a0 Z = true) : Jvm.Cond.before (Jvm.Cond.laysFinal "java/util/LinkedHashMap" "java/util/LinkedHashMap" "accessOrder" "Z") a0 Z = true := hw _ (List.mem_of_getElem? (i := 111) rfl)
theorem own_w112 {Z : State} {a0 : Array Value} (hw : ∀ d ∈ tables_1, d.before a0 Z = true) : Jvm.Cond.before (Jvm.Cond.fieldLink "java/util/HashSet" (10 : Nat) "java/util/HashSet" "map" "Ljava/util/HashMap;") a0 Z = true := hw _ (List.mem_of_getElem? (i := 112) rfl)
theorem own_w113 {Z : State} {a0 : Array Value} (hw : ∀ d ∈ tables_1, d.before a0 Z = true) : Jvm.Cond.before (Jvm.Cond.lays "java/util/LinkedHashSet" "java/util/HashSet" "map" "Ljava/util/HashMap;") a0 Z = true := hw _ (List.mem_of_getElem? (i := 113) rfl)
theorem own_w114 {Z : State} {a0 : Array Value} (hw : ∀ d ∈ tables_1, d.before a0 Z = true) : Jvm.Cond.before (Jvm.Cond.fieldLink own_TT (25 : Nat) own_TT "otherGraphs" "Ljava/util/Set;") a0 Z = true := hw _ (List.mem_of_getElem? (i := 114) rfl)
theorem own_w115 {Z : State} {a0 : Array Value} (hw : ∀ d ∈ tables_1, d.before a0 Z = true) : Jvm.Cond.before (Jvm.Cond.laysFinal own_TT own_TT "otherGraphs" "Ljava/util/Set;") a0 Z = true := hw _ (List.mem_of_getElem? (i := 115) rfl)
theorem own_w116 {Z : State} {a0 : Array Value} (hw : ∀ d ∈ tables_1, d.before a0 Z = true) : Jvm.Cond.before (Jvm.Cond.fieldLink own_TT (29 : Nat) own_TT "table" "[I") a0 Z = true := hw _ (List.mem_of_getElem? (i := 116) rfl)
theorem own_w117 {Z : State} {a0 : Array Value} (hw : ∀ d ∈ tables_1, d.before a0 Z = true) : Jvm.Cond.before (Jvm.Cond.lays own_TT own_TT "table" "[I") a0 Z = true := hw _ (List.mem_of_getElem? (i := 117) rfl)
theorem own_w118 {Z : State} {a0 : Array Value} (hw : ∀ d ∈ tables_1, d.before a0 Z = true) : Jvm.Cond.before (Jvm.Cond.methodLink x.cls (17 : Nat) ({ cls := own_TT, name := "add", desc := "(IIII)V" } : Jvm.MethodName)) a0 Z = true := hw _ (List.mem_of_getElem? (i := 118) rfl)
theorem own_w119 {Z : State} {a0 : Array Value} (hw : ∀ d ∈ tables_1, d.before a0 Z = true) : Jvm.Cond.before (Jvm.Cond.declares ({ cls := own_TT, name := "add", desc := "(IIII)V" } : Jvm.MethodName)) a0 Z = true := hw _ (List.mem_of_getElem? (i := 119) rfl)
theorem own_w120 {Z : State} {a0 : Array Value} (hw : ∀ d ∈ tables_1, d.before a0 Z = true) : Jvm.Cond.before (Jvm.Cond.instanceMethod ({ cls := own_TT, name := "add", desc := "(IIII)V" } : Jvm.MethodName)) a0 Z = true := hw _ (List.mem_of_getElem? (i := 120) rfl)
theorem own_w121 {Z : State} {a0 : Array Value} (hw : ∀ d ∈ tables_1, d.before a0 Z = true) : Jvm.Cond.before (Jvm.Cond.selects own_TT ({ cls := own_TT, name := "add", desc := "(IIII)V" } : Jvm.MethodName) ({ cls := own_TT, name := "add", desc := "(IIII)V" } : Jvm.MethodName)) a0 Z = true := hw _ (List.mem_of_getElem? (i := 121) rfl)
theorem own_w122 {Z : State} {a0 : Array Value} (hw : ∀ d ∈ tables_1, d.before a0 Z = true) : Jvm.Cond.before (Jvm.Cond.code ({ cls := own_TT, name := "add", desc := "(IIII)V" } : Jvm.MethodName) prog_37_method_2_code (8 : Nat) (Option.none : Option Jvm.ClassFile.FieldType)) a0 Z = true := hw _ (List.mem_of_getElem? (i := 122) rfl)
theorem own_w123 {Z : State} {a0 : Array Value} (hw : ∀ d ∈ tables_1, d.before a0 Z = true) : Jvm.Cond.before (Jvm.Cond.methodLink own_TT (32 : Nat) ({ cls := own_TT, name := "hash", desc := "(III)I" } : Jvm.MethodName)) a0 Z = true := hw _ (List.mem_of_getElem? (i := 123) rfl)
theorem own_w124 {Z : State} {a0 : Array Value} (hw : ∀ d ∈ tables_1, d.before a0 Z = true) : Jvm.Cond.before (Jvm.Cond.static ({ cls := own_TT, name := "hash", desc := "(III)I" } : Jvm.MethodName)) a0 Z = true := hw _ (List.mem_of_getElem? (i := 124) rfl)
theorem own_w125 {Z : State} {a0 : Array Value} (hw : ∀ d ∈ tables_1, d.before a0 Z = true) : Jvm.Cond.before (Jvm.Cond.code ({ cls := own_TT, name := "hash", desc := "(III)I" } : Jvm.MethodName) prog_37_method_8_code (4 : Nat) (Option.some Jvm.ClassFile.FieldType.int)) a0 Z = true := hw _ (List.mem_of_getElem? (i := 125) rfl)
theorem own_w126 {Z : State} {a0 : Array Value} (hw : ∀ d ∈ tables_1, d.before a0 Z = true) : Jvm.Cond.before (Jvm.Cond.constant own_TT (88 : Nat) (-1640531527 : Int32)) a0 Z = true := hw _ (List.mem_of_getElem? (i := 126) rfl)
theorem own_w127 {Z : State} {a0 : Array Value} (hw : ∀ d ∈ tables_1, d.before a0 Z = true) : Jvm.Cond.before (Jvm.Cond.constant own_TT (89 : Nat) (2146121005 : Int32)) a0 Z = true := hw _ (List.mem_of_getElem? (i := 127) rfl)
theorem own_w128 {Z : State} {a0 : Array Value} (hw : ∀ d ∈ tables_1, d.before a0 Z = true) : Jvm.Cond.before (Jvm.Cond.constant own_TT (90 : Nat) (-2073254261 : Int32)) a0 Z = true := hw _ (List.mem_of_getElem? (i := 128) rfl)
theorem own_w129 {Z : State} {a0 : Array Value} (hw : ∀ d ∈ tables_1, d.before a0 Z = true) : Jvm.Cond.before (Jvm.Cond.fieldLink own_TT (48 : Nat) own_TT "size" "I") a0 Z = true := hw _ (List.mem_of_getElem? (i := 129) rfl)
theorem own_w130 {Z : State} {a0 : Array Value} (hw : ∀ d ∈ tables_1, d.before a0 Z = true) : Jvm.Cond.before (Jvm.Cond.lays own_TT own_TT "size" "I") a0 Z = true := hw _ (List.mem_of_getElem? (i := 130) rfl)
theorem own_w131 {Z : State} {a0 : Array Value} (hw : ∀ d ∈ tables_1, d.before a0 Z = true) : Jvm.Cond.before (Jvm.Cond.classLink x.cls (21 : Nat) own_RG) a0 Z = true := hw _ (List.mem_of_getElem? (i := 131) rfl)
theorem own_w132 {Z : State} {a0 : Array Value} (hw : ∀ d ∈ tables_1, d.before a0 Z = true) : Jvm.Cond.before (Jvm.Cond.instantiable own_RG (13 : Nat)) a0 Z = true := hw _ (List.mem_of_getElem? (i := 132) rfl)
theorem own_w133 {Z : State} {a0 : Array Value} (hw : ∀ d ∈ tables_1, d.before a0 Z = true) : Jvm.Cond.before (Jvm.Cond.initialized own_RG) a0 Z = true := hw _ (List.mem_of_getElem? (i := 133) rfl)
theorem own_w134 {Z : State} {a0 : Array Value} (hw : ∀ d ∈ tables_1, d.before a0 Z = true) : Jvm.Cond.before (Jvm.Cond.classLink x.cls (23 : Nat) own_PX) a0 Z = true := hw _ (List.mem_of_getElem? (i := 134) rfl)
theorem own_w135 {Z : State} {a0 : Array Value} (hw : ∀ d ∈ tables_1, d.before a0 Z = true) : Jvm.Cond.before (Jvm.Cond.instantiable own_PX (1 : Nat)) a0 Z = true := hw _ (List.mem_of_getElem? (i := 135) rfl)
theorem own_w136 {Z : State} {a0 : Array Value} (hw : ∀ d ∈ tables_1, d.before a0 Z = true) : Jvm.Cond.before (Jvm.Cond.initialized own_PX) a0 Z = true := hw _ (List.mem_of_getElem? (i := 136) rfl)
theorem own_w137 {Z : State} {a0 : Array Value} (hw : ∀ d ∈ tables_1, d.before a0 Z = true) : Jvm.Cond.before (Jvm.Cond.methodLink x.cls (25 : Nat) ({ cls := own_PX, name := "<init>", desc := "()V" } : Jvm.MethodName)) a0 Z = true := hw _ (List.mem_of_getElem? (i := 137) rfl)
theorem own_w138 {Z : State} {a0 : Array Value} (hw : ∀ d ∈ tables_1, d.before a0 Z = true) : Jvm.Cond.before (Jvm.Cond.instanceMethod ({ cls := own_PX, name := "<init>", desc := "()V" } : Jvm.MethodName)) a0 Z = true := hw _ (List.mem_of_getElem? (i := 138) rfl)
theorem own_w139 {Z : State} {a0 : Array Value} (hw : ∀ d ∈ tables_1, d.before a0 Z = true) : Jvm.Cond.before (Jvm.Cond.code ({ cls := own_PX, name := "<init>", desc := "()V" } : Jvm.MethodName) prog_25_method_1_code (1 : Nat) (Option.none : Option Jvm.ClassFile.FieldType)) a0 Z = true := hw _ (List.mem_of_getElem? (i := 139) rfl)
theorem own_w140 {Z : State} {a0 : Array Value} (hw : ∀ d ∈ tables_1, d.before a0 Z = true) : Jvm.Cond.before (Jvm.Cond.methodLink own_PX (1 : Nat) ({ cls := "java/lang/Object", name := "<init>", desc := "()V" } : Jvm.MethodName)) a0 Z = true := hw _ (List.mem_of_getElem? (i := 140) rfl)
theorem own_w141 {Z : State} {a0 : Array Value} (hw : ∀ d ∈ tables_1, d.before a0 Z = true) : Jvm.Cond.before (Jvm.Cond.classLink own_PX (7 : Nat) "java/util/LinkedHashMap") a0 Z = true := hw _ (List.mem_of_getElem? (i := 141) rfl)
theorem own_w142 {Z : State} {a0 : Array Value} (hw : ∀ d ∈ tables_1, d.before a0 Z = true) : Jvm.Cond.before (Jvm.Cond.methodLink own_PX (9 : Nat) ({ cls := "java/util/LinkedHashMap", name := "<init>", desc := "()V" } : Jvm.MethodName)) a0 Z = true := hw _ (List.mem_of_getElem? (i := 142) rfl)
theorem own_w143 {Z : State} {a0 : Array Value} (hw : ∀ d ∈ tables_1, d.before a0 Z = true) : Jvm.Cond.before (Jvm.Cond.instanceMethod ({ cls := "java/util/LinkedHashMap", name := "<init>", desc := "()V" } : Jvm.MethodName)) a0 Z = true := hw _ (List.mem_of_getElem? (i := 143) rfl)
theorem own_w144 {Z : State} {a0 : Array Value} (hw : ∀ d ∈ tables_1, d.before a0 Z = true) : Jvm.Cond.before (Jvm.Cond.code ({ cls := "java/util/LinkedHashMap", name := "<init>", desc := "()V" } : Jvm.MethodName) jdk_94_method_16_code (1 : Nat) (Option.none : Option Jvm.ClassFile.FieldType)) a0 Z = true := hw _ (List.mem_of_getElem? (i := 144) rfl)
theorem own_w145 {Z : State} {a0 : Array Value} (hw : ∀ d ∈ tables_1, d.before a0 Z = true) : Jvm.Cond.before (Jvm.Cond.methodLink "java/util/LinkedHashMap" (87 : Nat) ({ cls := "java/util/HashMap", name := "<init>", desc := "()V" } : Jvm.MethodName)) a0 Z = true := hw _ (List.mem_of_getElem? (i := 145) rfl)
theorem own_w146 {Z : State} {a0 : Array Value} (hw : ∀ d ∈ tables_1, d.before a0 Z = true) : Jvm.Cond.before (Jvm.Cond.instanceMethod ({ cls := "java/util/HashMap", name := "<init>", desc := "()V" } : Jvm.MethodName)) a0 Z = true := hw _ (List.mem_of_getElem? (i := 146) rfl)
theorem own_w148 {Z : State} {a0 : Array Value} (hw : ∀ d ∈ tables_1, d.before a0 Z = true) : Jvm.Cond.before (Jvm.Cond.code ({ cls := "java/util/HashMap", name := "<init>", desc := "()V" } : Jvm.MethodName) jdk_69_method_7_code (1 : Nat) (Option.none : Option Jvm.ClassFile.FieldType)) a0 Z = true := hw _ (List.mem_of_getElem? (i := 148) rfl)
theorem own_w149 {Z : State} {a0 : Array Value} (hw : ∀ d ∈ tables_1, d.before a0 Z = true) : Jvm.Cond.before (Jvm.Cond.constantFloat "java/util/HashMap" (92 : Nat) (1061158912 : UInt32)) a0 Z = true := hw _ (List.mem_of_getElem? (i := 149) rfl)
theorem own_w150 {Z : State} {a0 : Array Value} (hw : ∀ d ∈ tables_1, d.before a0 Z = true) : Jvm.Cond.before (Jvm.Cond.fieldLink own_PX (10 : Nat) own_PX "declarations" "Ljava/util/Map;") a0 Z = true := hw _ (List.mem_of_getElem? (i := 150) rfl)
theorem own_w151 {Z : State} {a0 : Array Value} (hw : ∀ d ∈ tables_1, d.before a0 Z = true) : Jvm.Cond.before (Jvm.Cond.laysFinal own_PX own_PX "declarations" "Ljava/util/Map;") a0 Z = true := hw _ (List.mem_of_getElem? (i := 151) rfl)
theorem own_w152 {Z : State} {a0 : Array Value} (hw : ∀ d ∈ tables_1, d.before a0 Z = true) : Jvm.Cond.before (Jvm.Cond.methodLink x.cls (26 : Nat) ({ cls := own_RG, name := "<init>", desc := "([Ljava/lang/String;[Ljava/lang/String;[Ljava/lang/String;Lcom/example/weser/weser/core/TripleTable;Lcom/example/weser/weser/core/TripleTable;[Ljava/lang/String;Lcom/example/weser/weser/core/Prefixes;)V" } : Jvm.MethodName)) a0 Z = true := hw _ (List.mem_of_getElem? (i := 152) rfl)
theorem own_w153 {Z : State} {a0 : Array Value} (hw : ∀ d ∈ tables_1, d.before a0 Z = true) : Jvm.Cond.before (Jvm.Cond.instanceMethod ({ cls := own_RG, name := "<init>", desc := "([Ljava/lang/String;[Ljava/lang/String;[Ljava/lang/String;Lcom/example/weser/weser/core/TripleTable;Lcom/example/weser/weser/core/TripleTable;[Ljava/lang/String;Lcom/example/weser/weser/core/Prefixes;)V" } : Jvm.MethodName)) a0 Z = true := hw _ (List.mem_of_getElem? (i := 153) rfl)
theorem own_w154 {Z : State} {a0 : Array Value} (hw : ∀ d ∈ tables_1, d.before a0 Z = true) : Jvm.Cond.before (Jvm.Cond.code ({ cls := own_RG, name := "<init>", desc := "([Ljava/lang/String;[Ljava/lang/String;[Ljava/lang/String;Lcom/example/weser/weser/core/TripleTable;Lcom/example/weser/weser/core/TripleTable;[Ljava/lang/String;Lcom/example/weser/weser/core/Prefixes;)V" } : Jvm.MethodName) prog_29_method_1_code (8 : Nat) (Option.none : Option Jvm.ClassFile.FieldType)) a0 Z = true := hw _ (List.mem_of_getElem? (i := 154) rfl)
theorem own_w155 {Z : State} {a0 : Array Value} (hw : ∀ d ∈ tables_1, d.before a0 Z = true) : Jvm.Cond.before (Jvm.Cond.methodLink own_RG (1 : Nat) ({ cls := "java/lang/Object", name := "<init>", desc := "()V" } : Jvm.MethodName)) a0 Z = true := hw _ (List.mem_of_getElem? (i := 155) rfl)
theorem own_w156 {Z : State} {a0 : Array Value} (hw : ∀ d ∈ tables_1, d.before a0 Z = true) : Jvm.Cond.before (Jvm.Cond.fieldLink own_RG (7 : Nat) own_RG "iris" "[Ljava/lang/String;") a0 Z = true := hw _ (List.mem_of_getElem? (i := 156) rfl)
theorem own_w157 {Z : State} {a0 : Array Value} (hw : ∀ d ∈ tables_1, d.before a0 Z = true) : Jvm.Cond.before (Jvm.Cond.laysFinal own_RG own_RG "iris" "[Ljava/lang/String;") a0 Z = true := hw _ (List.mem_of_getElem? (i := 157) rfl)
theorem own_w158 {Z : State} {a0 : Array Value} (hw : ∀ d ∈ tables_1, d.before a0 Z = true) : Jvm.Cond.before (Jvm.Cond.fieldLink own_RG (13 : Nat) own_RG "predicateIris" "[Ljava/lang/String;") a0 Z = true := hw _ (List.mem_of_getElem? (i := 158) rfl)
theorem own_w159 {Z : State} {a0 : Array Value} (hw : ∀ d ∈ tables_1, d.before a0 Z = true) : Jvm.Cond.before (Jvm.Cond.laysFinal own_RG own_RG "predicateIris" "[Ljava/lang/String;") a0 Z = true := hw _ (List.mem_of_getElem? (i := 159) rfl)
theorem own_w160 {Z : State} {a0 : Array Value} (hw : ∀ d ∈ tables_1, d.before a0 Z = true) : Jvm.Cond.before (Jvm.Cond.fieldLink own_RG (16 : Nat) own_RG "graphLabels" "[Ljava/lang/String;") a0 Z = true := hw _ (List.mem_of_getElem? (i := 160) rfl)
theorem own_w161 {Z : State} {a0 : Array Value} (hw : ∀ d ∈ tables_1, d.before a0 Z = true) : Jvm.Cond.before (Jvm.Cond.laysFinal own_RG own_RG "graphLabels" "[Ljava/lang/String;") a0 Z = true := hw _ (List.mem_of_getElem? (i := 161) rfl)
theorem own_w162 {Z : State} {a0 : Array Value} (hw : ∀ d ∈ tables_1, d.before a0 Z = true) : Jvm.Cond.before (Jvm.Cond.methodLink own_RG (19 : Nat) ({ cls := own_TT, name := "subjects", desc := "()[I" } : Jvm.MethodName)) a0 Z = true := hw _ (List.mem_of_getElem? (i := 162) rfl)
theorem own_w163 {Z : State} {a0 : Array Value} (hw : ∀ d ∈ tables_1, d.before a0 Z = true) : Jvm.Cond.before (Jvm.Cond.declares ({ cls := own_TT, name := "subjects", desc := "()[I" } : Jvm.MethodName)) a0 Z = true := hw _ (List.mem_of_getElem? (i := 163) rfl)
theorem own_w164 {Z : State} {a0 : Array Value} (hw : ∀ d ∈ tables_1, d.before a0 Z = true) : Jvm.Cond.before (Jvm.Cond.instanceMethod ({ cls := own_TT, name := "subjects", desc := "()[I" } : Jvm.MethodName)) a0 Z = true := hw _ (List.mem_of_getElem? (i := 164) rfl)
theorem own_w165 {Z : State} {a0 : Array Value} (hw : ∀ d ∈ tables_1, d.before a0 Z = true) : Jvm.Cond.before (Jvm.Cond.selects own_TT ({ cls := own_TT, name := "subjects", desc := "()[I" } : Jvm.MethodName) ({ cls := own_TT, name := "subjects", desc := "()[I" } : Jvm.MethodName)) a0 Z = true := hw _ (List.mem_of_getElem? (i := 165) rfl)
theorem own_w166 {Z : State} {a0 : Array Value} (hw : ∀ d ∈ tables_1, d.before a0 Z = true) : Jvm.Cond.before (Jvm.Cond.code ({ cls := own_TT, name := "subjects", desc := "()[I" } : Jvm.MethodName) prog_37_method_3_code (1 : Nat) (Option.some (Jvm.ClassFile.FieldType.array Jvm.ClassFile.FieldType.int))) a0 Z = true := hw _ (List.mem_of_getElem? (i := 166) rfl)
theorem own_w167 {Z : State} {a0 : Array Value} (hw : ∀ d ∈ tables_1, d.before a0 Z = true) : Jvm.Cond.before (Jvm.Cond.methodLink own_TT (52 : Nat) ({ cls := "java/util/Arrays", name := "copyOf", desc := "([II)[I" } : Jvm.MethodName)) a0 Z = true := hw _ (List.mem_of_getElem? (i := 167) rfl)
theorem own_w168 {Z : State} {a0 : Array Value} (hw : ∀ d ∈ tables_1, d.before a0 Z = true) : Jvm.Cond.before (Jvm.Cond.static ({ cls := "java/util/Arrays", name := "copyOf", desc := "([II)[I" } : Jvm.MethodName)) a0 Z = true := hw _ (List.mem_of_getElem? (i := 168) rfl)
theorem own_w169 {Z : State} {a0 : Array Value} (hw : ∀ d ∈ tables_1, d.before a0 Z = true) : Jvm.Cond.before (Jvm.Cond.initialized "java/util/Arrays") a0 Z = true := hw _ (List.mem_of_getElem? (i := 169) rfl)
theorem own_w170 {Z : State} {a0 : Array Value} (hw : ∀ d ∈ tables_1, d.before a0 Z = true) : Jvm.Cond.before (Jvm.Cond.code ({ cls := "java/util/Arrays", name := "copyOf", desc := "([II)[I" } : Jvm.MethodName) jdk_65_method_123_code (3 : Nat) (Option.some (Jvm.ClassFile.FieldType.array Jvm.ClassFile.FieldType.int))) a0 Z = true := hw _ (List.mem_of_getElem? (i := 170) rfl)
theorem own_w171 {Z : State} {a0 : Array Value} (hw : ∀ d ∈ tables_1, d.before a0 Z = true) : Jvm.Cond.before (Jvm.Cond.methodLink "java/util/Arrays" (304 : Nat) ({ cls := "java/lang/Math", name := "min", desc := "(II)I" } : Jvm.MethodName)) a0 Z = true := hw _ (List.mem_of_getElem? (i := 171) rfl)
theorem own_w172 {Z : State} {a0 : Array Value} (hw : ∀ d ∈ tables_1, d.before a0 Z = true) : Jvm.Cond.before (Jvm.Cond.static ({ cls := "java/lang/Math", name := "min", desc := "(II)I" } : Jvm.MethodName)) a0 Z = true := hw _ (List.mem_of_getElem? (i := 172) rfl)
theorem own_w173 {Z : State} {a0 : Array Value} (hw : ∀ d ∈ tables_1, d.before a0 Z = true) : Jvm.Cond.before (Jvm.Cond.initialized "java/lang/Math") a0 Z = true := hw _ (List.mem_of_getElem? (i := 173) rfl)
theorem own_w174 {Z : State} {a0 : Array Value} (hw : ∀ d ∈ tables_1, d.before a0 Z = true) : Jvm.Cond.before (Jvm.Cond.code ({ cls := "java/lang/Math", name := "min", desc := "(II)I" } : Jvm.MethodName) jdk_29_method_69_code (2 : Nat) (Option.some Jvm.ClassFile.FieldType.int)) a0 Z = true := hw _ (List.mem_of_getElem? (i := 174) rfl)
theorem own_w175 {Z : State} {a0 : Array Value} (hw : ∀ d ∈ tables_1, d.before a0 Z = true) : Jvm.Cond.before (Jvm.Cond.methodLink "java/util/Arrays" (150 : Nat) ({ cls := "java/lang/System", name := "arraycopy", desc := "(Ljava/lang/Object;ILjava/lang/Object;II)V" } : Jvm.MethodName)) a0 Z = true := hw _ (List.mem_of_getElem? (i := 175) rfl)
theorem own_w176 {Z : State} {a0 : Array Value} (hw : ∀ d ∈ tables_1, d.before a0 Z = true) : Jvm.Cond.before (Jvm.Cond.static ({ cls := "java/lang/System", name := "arraycopy", desc := "(Ljava/lang/Object;ILjava/lang/Object;II)V" } : Jvm.MethodName)) a0 Z = true := hw _ (List.mem_of_getElem? (i := 176) rfl)
theorem own_w177 {Z : State} {a0 : Array Value} (hw : ∀ d ∈ tables_1, d.before a0 Z = true) : Jvm.Cond.before (Jvm.Cond.initialized "java/lang/System") a0 Z = true := hw _ (List.mem_of_getElem? (i := 177) rfl)
theorem own_w178 {Z : State} {a0 : Array Value} (hw : ∀ d ∈ tables_1, d.before a0 Z = true) : Jvm.Cond.before (Jvm.Cond.native ({ cls := "java/lang/System", name := "arraycopy", desc := "(Ljava/lang/Object;ILjava/lang/Object;II)V" } : Jvm.MethodName)) a0 Z = true := hw _ (List.mem_of_getElem? (i := 178) rfl)
theorem own_w179 {Z : State} {a0 : Array Value} (hw : ∀ d ∈ tables_1, d.before a0 Z = true) : Jvm.Cond.before (Jvm.Cond.fieldLink own_RG (25 : Nat) own_RG "linkSources" "[I") a0 Z = true := hw _ (List.mem_of_getElem? (i := 179) rfl)
theorem own_w180 {Z : State} {a0 : Array Value} (hw : ∀ d ∈ tables_1, d.before a0 Z = true) : Jvm.Cond.before (Jvm.Cond.laysFinal own_RG own_RG "linkSources" "[I") a0 Z = true := hw _ (List.mem_of_getElem? (i := 180) rfl)
theorem own_w181 {Z : State} {a0 : Array Value} (hw : ∀ d ∈ tables_1, d.before a0 Z = true) : Jvm.Cond.before (Jvm.Cond.methodLink own_RG (29 : Nat) ({ cls := own_TT, name := "predicates", desc := "()[I" } : Jvm.MethodName)) a0 Z = true := hw _ (List.mem_of_getElem? (i := 181) rfl)
theorem own_w182 {Z : State} {a0 : Array Value} (hw : ∀ d ∈ tables_1, d.before a0 Z = true) : Jvm.Cond.before (Jvm.Cond.declares ({ cls := own_TT, name := "predicates", desc := "()[I" } : Jvm.MethodName)) a0 Z = true := hw _ (List.mem_of_getElem? (i := 182) rfl)
theorem own_w183 {Z : State} {a0 : Array Value} (hw : ∀ d ∈ tables_1, d.before a0 Z = true) : Jvm.Cond.before (Jvm.Cond.instanceMethod ({ cls := own_TT, name := "predicates", desc := "()[I" } : Jvm.MethodName)) a0 Z = true := hw _ (List.mem_of_getElem? (i := 183) rfl)
theorem own_w184 {Z : State} {a0 : Array Value} (hw : ∀ d ∈ tables_1, d.before a0 Z = true) : Jvm.Cond.before (Jvm.Cond.selects own_TT ({ cls := own_TT, name := "predicates", desc := "()[I" } : Jvm.MethodName) ({ cls := own_TT, name := "predicates", desc := "()[I" } : Jvm.MethodName)) a0 Z = true := hw _ (List.mem_of_getElem? (i := 184) rfl)
theorem own_w185 {Z : State} {a0 : Array Value} (hw : ∀ d ∈ tables_1, d.before a0 Z = true) : Jvm.Cond.before (Jvm.Cond.code ({ cls := own_TT, name := "predicates", desc := "()[I" } : Jvm.MethodName) prog_37_method_4_code (1 : Nat) (Option.some (Jvm.ClassFile.FieldType.array Jvm.ClassFile.FieldType.int))) a0 Z = true := hw _ (List.mem_of_getElem? (i := 185) rfl)
theorem own_w186 {Z : State} {a0 : Array Value} (hw : ∀ d ∈ tables_1, d.before a0 Z = true) : Jvm.Cond.before (Jvm.Cond.fieldLink own_RG (32 : Nat) own_RG "linkPredicates" "[I") a0 Z = true := hw _ (List.mem_of_getElem? (i := 186) rfl)
theorem own_w187 {Z : State} {a0 : Array Value} (hw : ∀ d ∈ tables_1, d.before a0 Z = true) : Jvm.Cond.before (Jvm.Cond.laysFinal own_RG own_RG "linkPredicates" "[I") a0 Z = true := hw _ (List.mem_of_getElem? (i := 187) rfl)
theorem own_w188 {Z : State} {a0 : Array Value} (hw : ∀ d ∈ tables_1, d.before a0 Z = true) : Jvm.Cond.before (Jvm.Cond.methodLink own_RG (35 : Nat) ({ cls := own_TT, name := "objects", desc := "()[I" } : Jvm.MethodName)) a0 Z = true := hw _ (List.mem_of_getElem? (i := 188) rfl)
theorem own_w189 {Z : State} {a0 : Array Value} (hw : ∀ d ∈ tables_1, d.before a0 Z = true) : Jvm.Cond.before (Jvm.Cond.declares ({ cls := own_TT, name := "objects", desc := "()[I" } : Jvm.MethodName)) a0 Z = true := hw _ (List.mem_of_getElem? (i := 189) rfl)
theorem own_w190 {Z : State} {a0 : Array Value} (hw : ∀ d ∈ tables_1, d.before a0 Z = true) : Jvm.Cond.before (Jvm.Cond.instanceMethod ({ cls := own_TT, name := "objects", desc := "()[I" } : Jvm.MethodName)) a0 Z = true := hw _ (List.mem_of_getElem? (i := 190) rfl)
theorem own_w191 {Z : State} {a0 : Array Value} (hw : ∀ d ∈ tables_1, d.before a0 Z = true) : Jvm.Cond.before (Jvm.Cond.selects own_TT ({ cls := own_TT, name := "objects", desc := "()[I" } : Jvm.MethodName) ({ cls := own_TT, name := "objects", desc := "()[I" } : Jvm.MethodName)) a0 Z = true := hw _ (List.mem_of_getElem? (i := 191) rfl)
theorem own_w192 {Z : State} {a0 : Array Value} (hw : ∀ d ∈ tables_1, d.before a0 Z = true) : Jvm.Cond.before (Jvm.Cond.code ({ cls := own_TT, name := "objects", desc := "()[I" } : Jvm.MethodName) prog_37_method_5_code (1 : Nat) (Option.some (Jvm.ClassFile.FieldType.array Jvm.ClassFile.FieldType.int))) a0 Z = true := hw _ (List.mem_of_getElem? (i := 192) rfl)
theorem own_w193 {Z : State} {a0 : Array Value} (hw : ∀ d ∈ tables_1, d.before a0 Z = true) : Jvm.Cond.before (Jvm.Cond.fieldLink own_RG (38 : Nat) own_RG "linkTargets" "[I") a0 Z = true := hw _ (List.mem_of_getElem? (i := 193) rfl)
theorem own_w194 {Z : State} {a0 : Array Value} (hw : ∀ d ∈ tables_1, d.before a0 Z = true) : Jvm.Cond.before (Jvm.Cond.laysFinal own_RG own_RG "linkTargets" "[I") a0 Z = true := hw _ (List.mem_of_getElem? (i := 194) rfl)
theorem own_w195 {Z : State} {a0 : Array Value} (hw : ∀ d ∈ tables_1, d.before a0 Z = true) : Jvm.Cond.before (Jvm.Cond.methodLink own_RG (41 : Nat) ({ cls := own_TT, name := "memberships", desc := "()Lcom/example/weser/weser/core/Memberships;" } : Jvm.MethodName)) a0 Z = true := hw _ (List.mem_of_getElem? (i := 195) rfl)
theorem own_w196 {Z : State} {a0 : Array Value} (hw : ∀ d ∈ tables_1, d.before a0 Z = true) : Jvm.Cond.before (Jvm.Cond.declares ({ cls := own_TT, name := "memberships", desc := "()Lcom/example/weser/weser/core/Memberships;" } : Jvm.MethodName)) a0 Z = true := hw _ (List.mem_of_getElem? (i := 196) rfl)
theorem own_w197 {Z : State} {a0 : Array Value} (hw : ∀ d ∈ tables_1, d.before a0 Z = true) : Jvm.Cond.before (Jvm.Cond.instanceMethod ({ cls := own_TT, name := "memberships", desc := "()Lcom/example/weser/weser/core/Memberships;" } : Jvm.MethodName)) a0 Z = true := hw _ (List.mem_of_getElem? (i := 197) rfl)
theorem own_w198 {Z : State} {a0 : Array Value} (hw : ∀ d ∈ tables_1, d.before a0 Z = true) : Jvm.Cond.before (Jvm.Cond.selects own_TT ({ cls := own_TT, name := "memberships", desc := "()Lcom/example/weser/weser/core/Memberships;" } : Jvm.MethodName) ({ cls := own_TT, name := "memberships", desc := "()Lcom/example/weser/weser/core/Memberships;" } : Jvm.MethodName)) a0 Z = true := hw _ (List.mem_of_getElem? (i := 198) rfl)
theorem own_w199 {Z : State} {a0 : Array Value} (hw : ∀ d ∈ tables_1, d.before a0 Z = true) : Jvm.Cond.before (Jvm.Cond.code ({ cls := own_TT, name := "memberships", desc := "()Lcom/example/weser/weser/core/Memberships;" } : Jvm.MethodName) prog_37_method_6_code (8 : Nat) (Option.some (Jvm.ClassFile.FieldType.object own_MB))) a0 Z = true := hw _ (List.mem_of_getElem? (i := 199) rfl)
theorem own_w200 {Z : State} {a0 : Array Value} (hw : ∀ d ∈ tables_1, d.before a0 Z = true) : Jvm.Cond.before (Jvm.Cond.methodLink own_TT (62 : Nat) ({ cls := "java/util/Set", name := "size", desc := "()I" } : Jvm.MethodName)) a0 Z = true := hw _ (List.mem_of_getElem? (i := 200) rfl)
theorem own_w201 {Z : State} {a0 : Array Value} (hw : ∀ d ∈ tables_1, d.before a0 Z = true) : Jvm.Cond.before (Jvm.Cond.declares ({ cls := "java/util/Set", name := "size", desc := "()I" } : Jvm.MethodName)) a0 Z = true := hw _ (List.mem_of_getElem? (i := 201) rfl)
theorem own_w202 {Z : State} {a0 : Array Value} (hw : ∀ d ∈ tables_1, d.before a0 Z = true) : Jvm.Cond.before (Jvm.Cond.interfaceMethod "java/util/Set" "java/util/Set" "size" "()I") a0 Z = true := hw _ (List.mem_of_getElem? (i := 202) rfl)
theorem own_w203 {Z : State} {a0 : Array Value} (hw : ∀ d ∈ tables_1, d.before a0 Z = true) : Jvm.Cond.before (Jvm.Cond.selects "java/util/LinkedHashSet" ({ cls := "java/util/Set", name := "size", desc := "()I" } : Jvm.MethodName) ({ cls := "java/util/HashSet", name := "size", desc := "()I" } : Jvm.MethodName)) a0 Z = true := hw _ (List.mem_of_getElem? (i := 203) rfl)
theorem own_w204 {Z : State} {a0 : Array Value} (hw : ∀ d ∈ tables_1, d.before a0 Z = true) : Jvm.Cond.before (Jvm.Cond.instanceMethod ({ cls := "java/util/HashSet", name := "size", desc := "()I" } : Jvm.MethodName)) a0 Z = true := hw _ (List.mem_of_getElem? (i := 204) rfl)
theorem own_w205 {Z : State} {a0 : Array Value} (hw : ∀ d ∈ tables_1, d.before a0 Z = true) : Jvm.Cond.before (Jvm.Cond.publicMethod ({ cls := "java/util/HashSet", name := "size", desc := "()I" } : Jvm.MethodName)) a0 Z = true := hw _ (List.mem_of_getElem? (i := 205) rfl)
theorem own_w206 {Z : State} {a0 : Array Value} (hw : ∀ d ∈ tables_1, d.before a0 Z = true) : Jvm.Cond.before (Jvm.Cond.unhidden "java/util/LinkedHashSet" "size" "()I") a0 Z = true := hw _ (List.mem_of_getElem? (i := 206) rfl)
theorem own_w207 {Z : State} {a0 : Array Value} (hw : ∀ d ∈ tables_1, d.before a0 Z = true) : Jvm.Cond.before (Jvm.Cond.castable "java/util/LinkedHashSet" "java/util/Set") a0 Z = true := hw _ (List.mem_of_getElem? (i := 207) rfl)
theorem own_w208 {Z : State} {a0 : Array Value} (hw : ∀ d ∈ tables_1, d.before a0 Z = true) : Jvm.Cond.before (Jvm.Cond.code ({ cls := "java/util/HashSet", name := "size", desc := "()I" } : Jvm.MethodName) jdk_93_method_7_code (1 : Nat) (Option.some Jvm.ClassFile.FieldType.int)) a0 Z = true := hw _ (List.mem_of_getElem? (i := 208) rfl)
theorem own_w209 {Z : State} {a0 : Array Value} (hw : ∀ d ∈ tables_1, d.before a0 Z = true) : Jvm.Cond.before (Jvm.Cond.methodLink "java/util/HashSet" (55 : Nat) ({ cls := "java/util/HashMap", name := "size", desc := "()I" } : Jvm.MethodName)) a0 Z = true := hw _ (List.mem_of_getElem? (i := 209) rfl)
theorem own_w210 {Z : State} {a0 : Array Value} (hw : ∀ d ∈ tables_1, d.before a0 Z = true) : Jvm.Cond.before (Jvm.Cond.declares ({ cls := "java/util/HashMap", name := "size", desc := "()I" } : Jvm.MethodName)) a0 Z = true := hw _ (List.mem_of_getElem? (i := 210) rfl)
theorem own_w211 {Z : State} {a0 : Array Value} (hw : ∀ d ∈ tables_1, d.before a0 Z = true) : Jvm.Cond.before (Jvm.Cond.instanceMethod ({ cls := "java/util/HashMap", name := "size", desc := "()I" } : Jvm.MethodName)) a0 Z = true := hw _ (List.mem_of_getElem? (i := 211) rfl)
theorem own_w212 {Z : State} {a0 : Array Value} (hw : ∀ d ∈ tables_1, d.before a0 Z = true) : Jvm.Cond.before (Jvm.Cond.selects "java/util/LinkedHashMap" ({ cls := "java/util/HashMap", name := "size", desc := "()I" } : Jvm.MethodName) ({ cls := "java/util/HashMap", name := "size", desc := "()I" } : Jvm.MethodName)) a0 Z = true := hw _ (List.mem_of_getElem? (i := 212) rfl)
theorem own_w213 {Z : State} {a0 : Array Value} (hw : ∀ d ∈ tables_1, d.before a0 Z = true) : Jvm.Cond.before (Jvm.Cond.code ({ cls := "java/util/HashMap", name := "size", desc := "()I" } : Jvm.MethodName) jdk_69_method_10_code (1 : Nat) (Option.some Jvm.ClassFile.FieldType.int)) a0 Z = true := hw _ (List.mem_of_getElem? (i := 213) rfl)
theorem own_w214 {Z : State} {a0 : Array Value} (hw : ∀ d ∈ tables_1, d.before a0 Z = true) : Jvm.Cond.before (Jvm.Cond.fieldLink "java/util/HashMap" (156 : Nat) "java/util/HashMap" "size" "I") a0 Z = true := hw _ (List.mem_of_getElem? (i := 214) rfl)
theorem own_w215 {Z : State} {a0 : Array Value} (hw : ∀ d ∈ tables_1, d.before a0 Z = true) : Jvm.Cond.before (Jvm.Cond.lays "java/util/LinkedHashMap" "java/util/HashMap" "size" "I") a0 Z = true := hw _ (List.mem_of_getElem? (i := 215) rfl)
theorem own_w216 {Z : State} {a0 : Array Value} (hw : ∀ d ∈ tables_1, d.before a0 Z = true) : Jvm.Cond.before (Jvm.Cond.methodLink own_TT (65 : Nat) ({ cls := "java/util/Set", name := "iterator", desc := "()Ljava/util/Iterator;" } : Jvm.MethodName)) a0 Z = true := hw _ (List.mem_of_getElem? (i := 216) rfl)
theorem own_w217 {Z : State} {a0 : Array Value} (hw : ∀ d ∈ tables_1, d.before a0 Z = true) : Jvm.Cond.before (Jvm.Cond.declares ({ cls := "java/util/Set", name := "iterator", desc := "()Ljava/util/Iterator;" } : Jvm.MethodName)) a0 Z = true := hw _ (List.mem_of_getElem? (i := 217) rfl)
theorem own_w218 {Z : State} {a0 : Array Value} (hw : ∀ d ∈ tables_1, d.before a0 Z = true) : Jvm.Cond.before (Jvm.Cond.interfaceMethod "java/util/Set" "java/util/Set" "iterator" "()Ljava/util/Iterator;") a0 Z = true := hw _ (List.mem_of_getElem? (i := 218) rfl)
theorem own_w219 {Z : State} {a0 : Array Value} (hw : ∀ d ∈ tables_1, d.before a0 Z = true) : Jvm.Cond.before (Jvm.Cond.selects "java/util/LinkedHashSet" ({ cls := "java/util/Set", name := "iterator", desc := "()Ljava/util/Iterator;" } : Jvm.MethodName) ({ cls := "java/util/HashSet", name := "iterator", desc := "()Ljava/util/Iterator;" } : Jvm.MethodName)) a0 Z = true := hw _ (List.mem_of_getElem? (i := 219) rfl)
theorem own_w220 {Z : State} {a0 : Array Value} (hw : ∀ d ∈ tables_1, d.before a0 Z = true) : Jvm.Cond.before (Jvm.Cond.instanceMethod ({ cls := "java/util/HashSet", name := "iterator", desc := "()Ljava/util/Iterator;" } : Jvm.MethodName)) a0 Z = true := hw _ (List.mem_of_getElem? (i := 220) rfl)
theorem own_w221 {Z : State} {a0 : Array Value} (hw : ∀ d ∈ tables_1, d.before a0 Z = true) : Jvm.Cond.before (Jvm.Cond.publicMethod ({ cls := "java/util/HashSet", name := "iterator", desc := "()Ljava/util/Iterator;" } : Jvm.MethodName)) a0 Z = true := hw _ (List.mem_of_getElem? (i := 221) rfl)
theorem own_w222 {Z : State} {a0 : Array Value} (hw : ∀ d ∈ tables_1, d.before a0 Z = true) : Jvm.Cond.before (Jvm.Cond.unhidden "java/util/LinkedHashSet" "iterator" "()Ljava/util/Iterator;") a0 Z = true := hw _ (List.mem_of_getElem? (i := 222) rfl)
theorem own_w223 {Z : State} {a0 : Array Value} (hw : ∀ d ∈ tables_1, d.before a0 Z = true) : Jvm.Cond.before (Jvm.Cond.code ({ cls := "java/util/HashSet", name := "iterator", desc := "()Ljava/util/Iterator;" } : Jvm.MethodName) jdk_93_method_6_code (1 : Nat) (Option.some (Jvm.ClassFile.FieldType.object "java/util/Iterator"))) a0 Z = true := hw _ (List.mem_of_getElem? (i := 223) rfl)
theorem own_w224 {Z : State} {a0 : Array Value} (hw : ∀ d ∈ tables_1, d.before a0 Z = true) : Jvm.Cond.before (Jvm.Cond.methodLink "java/util/HashSet" (45 : Nat) ({ cls := "java/util/HashMap", name := "keySet", desc := "()Ljava/util/Set;" } : Jvm.MethodName)) a0 Z = true := hw _ (List.mem_of_getElem? (i := 224) rfl)
theorem own_w225 {Z : State} {a0 : Array Value} (hw : ∀ d ∈ tables_1, d.before a0 Z = true) : Jvm.Cond.before (Jvm.Cond.declares ({ cls := "java/util/HashMap", name := "keySet", desc := "()Ljava/util/Set;" } : Jvm.MethodName)) a0 Z = true := hw _ (List.mem_of_getElem? (i := 225) rfl)
theorem own_w227 {Z : State} {a0 : Array Value} (hw : ∀ d ∈ tables_1, d.before a0 Z = true) : Jvm.Cond.before (Jvm.Cond.selects "java/util/LinkedHashMap" ({ cls := "java/util/HashMap", name := "keySet", desc := "()Ljava/util/Set;" } : Jvm.MethodName) ({ cls := "java/util/LinkedHashMap", name := "keySet", desc := "()Ljava/util/Set;" } : Jvm.MethodName)) a0 Z = true := hw _ (List.mem_of_getElem? (i := 227) rfl)
theorem own_w228 {Z : State} {a0 : Array Value} (hw : ∀ d ∈ tables_1, d.before a0 Z = true) : Jvm.Cond.before (Jvm.Cond.instanceMethod ({ cls := "java/util/LinkedHashMap", name := "keySet", desc := "()Ljava/util/Set;" } : Jvm.MethodName)) a0 Z = true := hw _ (List.mem_of_getElem? (i := 228) rfl)
theorem own_w229 {Z : State} {a0 : Array Value} (hw : ∀ d ∈ tables_1, d.before a0 Z = true) : Jvm.Cond.before (Jvm.Cond.code ({ cls := "java/util/LinkedHashMap", name := "keySet", desc := "()Ljava/util/Set;" } : Jvm.MethodName) jdk_94_method_24_code (1 : Nat) (Option.some (Jvm.ClassFile.FieldType.object "java/util/Set"))) a0 Z = true := hw _ (List.mem_of_getElem? (i := 229) rfl)
theorem own_w230 {Z : State} {a0 : Array Value} (hw : ∀ d ∈ tables_1, d.before a0 Z = true) : Jvm.Cond.before (Jvm.Cond.methodLink "java/util/LinkedHashMap" (113 : Nat) ({ cls := "java/util/LinkedHashMap", name := "sequencedKeySet", desc := "()Ljava/util/SequencedSet;" } : Jvm.MethodName)) a0 Z = true := hw _ (List.mem_of_getElem? (i := 230) rfl)
theorem own_w231 {Z : State} {a0 : Array Value} (hw : ∀ d ∈ tables_1, d.before a0 Z = true) : Jvm.Cond.before (Jvm.Cond.declares ({ cls := "java/util/LinkedHashMap", name := "sequencedKeySet", desc := "()Ljava/util/SequencedSet;" } : Jvm.MethodName)) a0 Z = true := hw _ (List.mem_of_getElem? (i := 231) rfl)
theorem own_w232 {Z : State} {a0 : Array Value} (hw : ∀ d ∈ tables_1, d.before a0 Z = true) : Jvm.Cond.before (Jvm.Cond.instanceMethod ({ cls := "java/util/LinkedHashMap", name := "sequencedKeySet", desc := "()Ljava/util/SequencedSet;" } : Jvm.MethodName)) a0 Z = true := hw _ (List.mem_of_getElem? (i := 232) rfl)
theorem own_w233 {Z : State} {a0 : Array Value} (hw : ∀ d ∈ tables_1, d.before a0 Z = true) : Jvm.Cond.before (Jvm.Cond.selects "java/util/LinkedHashMap" ({ cls := "java/util/LinkedHashMap", name := "sequencedKeySet", desc := "()Ljava/util/SequencedSet;" } : Jvm.MethodName) ({ cls := "java/util/LinkedHashMap", name := "sequencedKeySet", desc := "()Ljava/util/SequencedSet;" } : Jvm.MethodName)) a0 Z = true := hw _ (List.mem_of_getElem? (i := 233) rfl)
theorem own_w234 {Z : State} {a0 : Array Value} (hw : ∀ d ∈ tables_1, d.before a0 Z = true) : Jvm.Cond.before (Jvm.Cond.code ({ cls := "java/util/LinkedHashMap", name := "sequencedKeySet", desc := "()Ljava/util/SequencedSet;" } : Jvm.MethodName) jdk_94_method_25_code (3 : Nat) (Option.some (Jvm.ClassFile.FieldType.object "java/util/SequencedSet"))) a0 Z = true := hw _ (List.mem_of_getElem? (i := 234) rfl)
theorem own_w235 {Z : State} {a0 : Array Value} (hw : ∀ d ∈ tables_1, d.before a0 Z = true) : Jvm.Cond.before (Jvm.Cond.fieldLink "java/util/LinkedHashMap" (117 : Nat) "java/util/LinkedHashMap" "keySet" "Ljava/util/Set;") a0 Z = true := hw _ (List.mem_of_getElem? (i := 235) rfl)
theorem own_w236 {Z : State} {a0 : Array Value} (hw : ∀ d ∈ tables_1, d.before a0 Z = true) : Jvm.Cond.before (Jvm.Cond.sameField "java/util/LinkedHashMap" "java/util/AbstractMap" "keySet" "Ljava/util/Set;") a0 Z = true := hw _ (List.mem_of_getElem? (i := 236) rfl)
theorem own_w237 {Z : State} {a0 : Array Value} (hw : ∀ d ∈ tables_1, d.before a0 Z = true) : Jvm.Cond.before (Jvm.Cond.lays "java/util/LinkedHashMap" "java/util/AbstractMap" "keySet" "Ljava/util/Set;") a0 Z = true := hw _ (List.mem_of_getElem? (i := 237) rfl)
theorem own_w238 {Z : State} {a0 : Array Value} (hw : ∀ d ∈ tables_1, d.before a0 Z = true) : Jvm.Cond.before (Jvm.Cond.classLink "java/util/LinkedHashMap" (121 : Nat) "java/util/LinkedHashMap$LinkedKeySet") a0 Z = true := hw _ (List.mem_of_getElem? (i := 238) rfl)
theorem own_w239 {Z : State} {a0 : Array Value} (hw : ∀ d ∈ tables_1, d.before a0 Z = true) : Jvm.Cond.before (Jvm.Cond.instantiable "java/util/LinkedHashMap$LinkedKeySet" (2 : Nat)) a0 Z = true := hw _ (List.mem_of_getElem? (i := 239) rfl)
theorem own_w240 {Z : State} {a0 : Array Value} (hw : ∀ d ∈ tables_1, d.before a0 Z = true) : Jvm.Cond.before (Jvm.Cond.initialized "java/util/LinkedHashMap$LinkedKeySet") a0 Z = true := hw _ (List.mem_of_getElem? (i := 240) rfl)
theorem own_w241 {Z : State} {a0 : Array Value} (hw : ∀ d ∈ tables_1, d.before a0 Z = true) : Jvm.Cond.before (Jvm.Cond.methodLink "java/util/LinkedHashMap" (123 : Nat) ({ cls := "java/util/LinkedHashMap$LinkedKeySet", name := "<init>", desc := "(Ljava/util/LinkedHashMap;Z)V" } : Jvm.MethodName)) a0 Z = true := hw _ (List.mem_of_getElem? (i := 241) rfl)
theorem own_w242 {Z : State} {a0 : Array Value} (hw : ∀ d ∈ tables_1, d.before a0 Z = true) : Jvm.Cond.before (Jvm.Cond.instanceMethod ({ cls := "java/util/LinkedHashMap$LinkedKeySet", name := "<init>", desc := "(Ljava/util/LinkedHashMap;Z)V" } : Jvm.MethodName)) a0 Z = true := hw _ (List.mem_of_getElem? (i := 242) rfl)
theorem own_w244 {Z : State} {a0 : Array Value} (hw : ∀ d ∈ tables_1, d.before a0 Z = true) : Jvm.Cond.before (Jvm.Cond.code ({ cls := "java/util/LinkedHashMap$LinkedKeySet", name := "<init>", desc := "(Ljava/util/LinkedHashMap;Z)V" } : Jvm.MethodName) jdk_112_method_1_code (3 : Nat) (Option.none : Option Jvm.ClassFile.FieldType)) a0 Z = true := hw _ (List.mem_of_getElem? (i := 244) rfl)
theorem own_w245 {Z : State} {a0 : Array Value} (hw : ∀ d ∈ tables_1, d.before a0 Z = true) : Jvm.Cond.before (Jvm.Cond.fieldLink "java/util/LinkedHashMap$LinkedKeySet" (1 : Nat) "java/util/LinkedHashMap$LinkedKeySet" "this$0" "Ljava/util/LinkedHashMap;") a0 Z = true := hw _ (List.mem_of_getElem? (i := 245) rfl)
theorem own_w246 {Z : State} {a0 : Array Value} (hw : ∀ d ∈ tables_1, d.before a0 Z = true) : Jvm.Cond.before (Jvm.Cond.laysFinal "java/util/LinkedHashMap$LinkedKeySet" "java/util/LinkedHashMap$LinkedKeySet" "this$0" "Ljava/util/LinkedHashMap;") a0 Z = true := hw _ (List.mem_of_getElem? (i := 246) rfl)
theorem own_w247 {Z : State} {a0 : Array Value} (hw : ∀ d ∈ tables_1, d.before a0 Z = true) : Jvm.Cond.before (Jvm.Cond.methodLink "java/util/LinkedHashMap$LinkedKeySet" (7 : Nat) ({ cls := "java/util/AbstractSet", name := "<init>", desc := "()V" } : Jvm.MethodName)) a0 Z = true := hw _ (List.mem_of_getElem? (i := 247) rfl)
theorem own_w250 {Z : State} {a0 : Array Value} (hw : ∀ d ∈ tables_1, d.before a0 Z = true) : Jvm.Cond.before (Jvm.Cond.fieldLink "java/util/LinkedHashMap$LinkedKeySet" (13 : Nat) "java/util/LinkedHashMap$LinkedKeySet" "reversed" "Z") a0 Z = true := hw _ (List.mem_of_getElem? (i := 250) rfl)
theorem own_w251 {Z : State} {a0 : Array Value} (hw : ∀ d ∈ tables_1, d.before a0 Z = true) : Jvm.Cond.before (Jvm.Cond.laysFinal "java/util/LinkedHashMap$LinkedKeySet" "java/util/LinkedHashMap$LinkedKeySet" "reversed" "Z") a0 Z = true := hw _ (List.mem_of_getElem? (i := 251) rfl)
theorem own_w252 {Z : State} {a0 : Array Value} (hw : ∀ d ∈ tables_1, d.before a0 Z = true) : Jvm.Cond.before (Jvm.Cond.methodLink "java/util/HashSet" (49 : Nat) ({ cls := "java/util/Set", name := "iterator", desc := "()Ljava/util/Iterator;" } : Jvm.MethodName)) a0 Z = true := hw _ (List.mem_of_getElem? (i := 252) rfl)
theorem own_w253 {Z : State} {a0 : Array Value} (hw : ∀ d ∈ tables_1, d.before a0 Z = true) : Jvm.Cond.before (Jvm.Cond.selects "java/util/LinkedHashMap$LinkedKeySet" ({ cls := "java/util/Set", name := "iterator", desc := "()Ljava/util/Iterator;" } : Jvm.MethodName) ({ cls := "java/util/LinkedHashMap$LinkedKeySet", name := "iterator", desc := "()Ljava/util/Iterator;" } : Jvm.MethodName)) a0 Z = true := hw _ (List.mem_of_getElem? (i := 253) rfl)
theorem own_w254 {Z : State} {a0 : Array Value} (hw : ∀ d ∈ tables_1, d.before a0 Z = true) : Jvm.Cond.before (Jvm.Cond.instanceMethod ({ cls := "java/util/LinkedHashMap$LinkedKeySet", name := "iterator", desc := "()Ljava/util/Iterator;" } : Jvm.MethodName)) a0 Z = true := hw _ (List.mem_of_getElem? (i := 254) rfl)
theorem own_w255 {Z : State} {a0 : Array Value} (hw : ∀ d ∈ tables_1, d.before a0 Z = true) : Jvm.Cond.before (Jvm.Cond.publicMethod ({ cls := "java/util/LinkedHashMap$LinkedKeySet", name := "iterator", desc := "()Ljava/util/Iterator;" } : Jvm.MethodName)) a0 Z = true := hw _ (List.mem_of_getElem? (i := 255) rfl)
theorem own_w256 {Z : State} {a0 : Array Value} (hw : ∀ d ∈ tables_1, d.before a0 Z = true) : Jvm.Cond.before (Jvm.Cond.unhidden "java/util/LinkedHashMap$LinkedKeySet" "iterator" "()Ljava/util/Iterator;") a0 Z = true := hw _ (List.mem_of_getElem? (i := 256) rfl)
theorem own_w257 {Z : State} {a0 : Array Value} (hw : ∀ d ∈ tables_1, d.before a0 Z = true) : Jvm.Cond.before (Jvm.Cond.castable "java/util/LinkedHashMap$LinkedKeySet" "java/util/Set") a0 Z = true := hw _ (List.mem_of_getElem? (i := 257) rfl)
theorem own_w258 {Z : State} {a0 : Array Value} (hw : ∀ d ∈ tables_1, d.before a0 Z = true) : Jvm.Cond.before (Jvm.Cond.code ({ cls := "java/util/LinkedHashMap$LinkedKeySet", name := "iterator", desc := "()Ljava/util/Iterator;" } : Jvm.MethodName) jdk_112_method_4_code (1 : Nat) (Option.some (Jvm.ClassFile.FieldType.object "java/util/Iterator"))) a0 Z = true := hw _ (List.mem_of_getElem? (i := 258) rfl)
theorem own_w259 {Z : State} {a0 : Array Value} (hw : ∀ d ∈ tables_1, d.before a0 Z = true) : Jvm.Cond.before (Jvm.Cond.classLink "java/util/LinkedHashMap$LinkedKeySet" (26 : Nat) "java/util/LinkedHashMap$LinkedKeyIterator") a0 Z = true := hw _ (List.mem_of_getElem? (i := 259) rfl)
theorem own_w260 {Z : State} {a0 : Array Value} (hw : ∀ d ∈ tables_1, d.before a0 Z = true) : Jvm.Cond.before (Jvm.Cond.instantiable "java/util/LinkedHashMap$LinkedKeyIterator" (5 : Nat)) a0 Z = true := hw _ (List.mem_of_getElem? (i := 260) rfl)
theorem own_w261 {Z : State} {a0 : Array Value} (hw : ∀ d ∈ tables_1, d.before a0 Z = true) : Jvm.Cond.before (Jvm.Cond.initialized "java/util/LinkedHashMap$LinkedKeyIterator") a0 Z = true := hw _ (List.mem_of_getElem? (i := 261) rfl)
theorem own_w262 {Z : State} {a0 : Array Value} (hw : ∀ d ∈ tables_1, d.before a0 Z = true) : Jvm.Cond.before (Jvm.Cond.methodLink "java/util/LinkedHashMap$LinkedKeySet" (28 : Nat) ({ cls := "java/util/LinkedHashMap$LinkedKeyIterator", name := "<init>", desc := "(Ljava/util/LinkedHashMap;Z)V" } : Jvm.MethodName)) a0 Z = true := hw _ (List.mem_of_getElem? (i := 262) rfl)
theorem own_w263 {Z : State} {a0 : Array Value} (hw : ∀ d ∈ tables_1, d.before a0 Z = true) : Jvm.Cond.before (Jvm.Cond.instanceMethod ({ cls := "java/util/LinkedHashMap$LinkedKeyIterator", name := "<init>", desc := "(Ljava/util/LinkedHashMap;Z)V" } : Jvm.MethodName)) a0 Z = true := hw _ (List.mem_of_getElem? (i := 263) rfl)
theorem own_w265 {Z : State} {a0 : Array Value} (hw : ∀ d ∈ tables_1, d.before a0 Z = true) : Jvm.Cond.before (Jvm.Cond.code ({ cls := "java/util/LinkedHashMap$LinkedKeyIterator", name := "<init>", desc := "(Ljava/util/LinkedHashMap;Z)V" } : Jvm.MethodName) jdk_2617_method_1_code (3 : Nat) (Option.none : Option Jvm.ClassFile.FieldType)) a0 Z = true := hw _ (List.mem_of_getElem? (i := 265) rfl)
theorem own_w266 {Z : State} {a0 : Array Value} (hw : ∀ d ∈ tables_1, d.before a0 Z = true) : Jvm.Cond.before (Jvm.Cond.methodLink "java/util/LinkedHashMap$LinkedKeyIterator" (1 : Nat) ({ cls := "java/util/LinkedHashMap$LinkedHashIterator", name := "<init>", desc := "(Ljava/util/LinkedHashMap;Z)V" } : Jvm.MethodName)) a0 Z = true := hw _ (List.mem_of_getElem? (i := 266) rfl)
theorem own_w267 {Z : State} {a0 : Array Value} (hw : ∀ d ∈ tables_1, d.before a0 Z = true) : Jvm.Cond.before (Jvm.Cond.instanceMethod ({ cls := "java/util/LinkedHashMap$LinkedHashIterator", name := "<init>", desc := "(Ljava/util/LinkedHashMap;Z)V" } : Jvm.MethodName)) a0 Z = true := hw _ (List.mem_of_getElem? (i := 267) rfl)
theorem own_w270 {Z : State} {a0 : Array Value} (hw : ∀ d ∈ tables_1, d.before a0 Z = true) : Jvm.Cond.before (Jvm.Cond.initialized "java/util/LinkedHashMap$LinkedHashIterator") a0 Z = true := hw _ (List.mem_of_getElem? (i := 270) rfl)
theorem own_w271 {Z : State} {a0 : Array Value} (hw : ∀ d ∈ tables_1, d.before a0 Z = true) : Jvm.Cond.before (Jvm.Cond.code ({ cls := "java/util/LinkedHashMap$LinkedHashIterator", name := "<init>", desc := "(Ljava/util/LinkedHashMap;Z)V" } : Jvm.MethodName) jdk_2616_method_1_code (3 : Nat) (Option.none : Option Jvm.ClassFile.FieldType)) a0 Z = true := hw _ (List.mem_of_getElem? (i := 271) rfl)
theorem own_w272 {Z : State} {a0 : Array Value} (hw : ∀ d ∈ tables_1, d.before a0 Z = true) : Jvm.Cond.before (Jvm.Cond.fieldLink "java/util/LinkedHashMap$LinkedHashIterator" (1 : Nat) "java/util/LinkedHashMap$LinkedHashIterator" "this$0" "Ljava/util/LinkedHashMap;") a0 Z = true := hw _ (List.mem_of_getElem? (i := 272) rfl)
theorem own_w273 {Z : State} {a0 : Array Value} (hw : ∀ d ∈ tables_1, d.before a0 Z = true) : Jvm.Cond.before (Jvm.Cond.laysFinal "java/util/LinkedHashMap$LinkedKeyIterator" "java/util/LinkedHashMap$LinkedHashIterator" "this$0" "Ljava/util/LinkedHashMap;") a0 Z = true := hw _ (List.mem_of_getElem? (i := 273) rfl)
theorem own_w274 {Z : State} {a0 : Array Value} (hw : ∀ d ∈ tables_1, d.before a0 Z = true) : Jvm.Cond.before (Jvm.Cond.methodLink "java/util/LinkedHashMap$LinkedHashIterator" (7 : Nat) ({ cls := "java/lang/Object", name := "<init>", desc := "()V" } : Jvm.MethodName)) a0 Z = true := hw _ (List.mem_of_getElem? (i := 274) rfl)
theorem own_w275 {Z : State} {a0 : Array Value} (hw : ∀ d ∈ tables_1, d.before a0 Z = true) : Jvm.Cond.before (Jvm.Cond.fieldLink "java/util/LinkedHashMap$LinkedHashIterator" (13 : Nat) "java/util/LinkedHashMap$LinkedHashIterator" "reversed" "Z") a0 Z = true := hw _ (List.mem_of_getElem? (i := 275) rfl)
theorem own_w276 {Z : State} {a0 : Array Value} (hw : ∀ d ∈ tables_1, d.before a0 Z = true) : Jvm.Cond.before (Jvm.Cond.lays "java/util/LinkedHashMap$LinkedKeyIterator" "java/util/LinkedHashMap$LinkedHashIterator" "reversed" "Z") a0 Z = true := hw _ (List.mem_of_getElem? (i := 276) rfl)
theorem own_w277 {Z : State} {a0 : Array Value} (hw : ∀ d ∈ tables_1, d.before a0 Z = true) : Jvm.Cond.before (Jvm.Cond.fieldLink "java/util/LinkedHashMap$LinkedHashIterator" (23 : Nat) "java/util/LinkedHashMap" "head" "Ljava/util/LinkedHashMap$Entry;") a0 Z = true := hw _ (List.mem_of_getElem? (i := 277) rfl)
theorem own_w278 {Z : State} {a0 : Array Value} (hw : ∀ d ∈ tables_1, d.before a0 Z = true) : Jvm.Cond.before (Jvm.Cond.lays "java/util/LinkedHashMap" "java/util/LinkedHashMap" "head" "Ljava/util/LinkedHashMap$Entry;") a0 Z = true := hw _ (List.mem_of_getElem? (i := 278) rfl)
theorem own_w279 {Z : State} {a0 : Array Value} (hw : ∀ d ∈ tables_1, d.before a0 Z = true) : Jvm.Cond.before (Jvm.Cond.fieldLink "java/util/LinkedHashMap$LinkedHashIterator" (26 : Nat) "java/util/LinkedHashMap$LinkedHashIterator" "next" "Ljava/util/LinkedHashMap$Entry;") a0 Z = true := hw _ (List.mem_of_getElem? (i := 279) rfl)
theorem own_w280 {Z : State} {a0 : Array Value} (hw : ∀ d ∈ tables_1, d.before a0 Z = true) : Jvm.Cond.before (Jvm.Cond.lays "java/util/LinkedHashMap$LinkedKeyIterator" "java/util/LinkedHashMap$LinkedHashIterator" "next" "Ljava/util/LinkedHashMap$Entry;") a0 Z = true := hw _ (List.mem_of_getElem? (i := 280) rfl)
theorem own_w281 {Z : State} {a0 : Array Value} (hw : ∀ d ∈ tables_1, d.before a0 Z = true) : Jvm.Cond.before (Jvm.Cond.fieldLink "java/util/LinkedHashMap$LinkedHashIterator" (29 : Nat) "java/util/LinkedHashMap" "modCount" "I") a0 Z = true := hw _ (List.mem_of_getElem? (i := 281) rfl)
theorem own_w282 {Z : State} {a0 : Array Value} (hw : ∀ d ∈ tables_1, d.before a0 Z = true) : Jvm.Cond.before (Jvm.Cond.sameField "java/util/LinkedHashMap" "java/util/HashMap" "modCount" "I") a0 Z = true := hw _ (List.mem_of_getElem? (i := 282) rfl)
theorem own_w283 {Z : State} {a0 : Array Value} (hw : ∀ d ∈ tables_1, d.before a0 Z = true) : Jvm.Cond.before (Jvm.Cond.lays "java/util/LinkedHashMap" "java/util/HashMap" "modCount" "I") a0 Z = true := hw _ (List.mem_of_getElem? (i := 283) rfl)
theorem own_w284 {Z : State} {a0 : Array Value} (hw : ∀ d ∈ tables_1, d.before a0 Z = true) : Jvm.Cond.before (Jvm.Cond.fieldLink "java/util/LinkedHashMap$LinkedHashIterator" (33 : Nat) "java/util/LinkedHashMap$LinkedHashIterator" "expectedModCount" "I") a0 Z = true := hw _ (List.mem_of_getElem? (i := 284) rfl)
theorem own_w285 {Z : State} {a0 : Array Value} (hw : ∀ d ∈ tables_1, d.before a0 Z = true) : Jvm.Cond.before (Jvm.Cond.lays "java/util/LinkedHashMap$LinkedKeyIterator" "java/util/LinkedHashMap$LinkedHashIterator" "expectedModCount" "I") a0 Z = true := hw _ (List.mem_of_getElem? (i := 285) rfl)
theorem own_w286 {Z : State} {a0 : Array Value} (hw : ∀ d ∈ tables_1, d.before a0 Z = true) : Jvm.Cond.before (Jvm.Cond.fieldLink "java/util/LinkedHashMap$LinkedHashIterator" (36 : Nat) "java/util/LinkedHashMap$LinkedHashIterator" "current" "Ljava/util/LinkedHashMap$Entry;") a0 Z = true := hw _ (List.mem_of_getElem? (i := 286) rfl)
theorem own_w287 {Z : State} {a0 : Array Value} (hw : ∀ d ∈ tables_1, d.before a0 Z = true) : Jvm.Cond.before (Jvm.Cond.lays "java/util/LinkedHashMap$LinkedKeyIterator" "java/util/LinkedHashMap$LinkedHashIterator" "current" "Ljava/util/LinkedHashMap$Entry;") a0 Z = true := hw _ (List.mem_of_getElem? (i := 287) rfl)
theorem own_w288 {Z : State} {a0 : Array Value} (hw : ∀ d ∈ tables_1, d.before a0 Z = true) : Jvm.Cond.before (Jvm.Cond.methodLink own_TT (69 : Nat) ({ cls := "java/util/Iterator", name := "hasNext", desc := "()Z" } : Jvm.MethodName)) a0 Z = true := hw _ (List.mem_of_getElem? (i := 288) rfl)
theorem own_w289 {Z : State} {a0 : Array Value} (hw : ∀ d ∈ tables_1, d.before a0 Z = true) : Jvm.Cond.before (Jvm.Cond.declares ({ cls := "java/util/Iterator", name := "hasNext", desc := "()Z" } : Jvm.MethodName)) a0 Z = true := hw _ (List.mem_of_getElem? (i := 289) rfl)
theorem own_w290 {Z : State} {a0 : Array Value} (hw : ∀ d ∈ tables_1, d.before a0 Z = true) : Jvm.Cond.before (Jvm.Cond.interfaceMethod "java/util/Iterator" "java/util/Iterator" "hasNext" "()Z") a0 Z = true := hw _ (List.mem_of_getElem? (i := 290) rfl)
theorem own_w291 {Z : State} {a0 : Array Value} (hw : ∀ d ∈ tables_1, d.before a0 Z = true) : Jvm.Cond.before (Jvm.Cond.selects "java/util/LinkedHashMap$LinkedKeyIterator" ({ cls := "java/util/Iterator", name := "hasNext", desc := "()Z" } : Jvm.MethodName) ({ cls := "java/util/LinkedHashMap$LinkedHashIterator", name := "hasNext", desc := "()Z" } : Jvm.MethodName)) a0 Z = true := hw _ (List.mem_of_getElem? (i := 291) rfl)
theorem own_w292 {Z : State} {a0 : Array Value} (hw : ∀ d ∈ tables_1, d.before a0 Z = true) : Jvm.Cond.before (Jvm.Cond.instanceMethod ({ cls := "java/util/LinkedHashMap$LinkedHashIterator", name := "hasNext", desc := "()Z" } : Jvm.MethodName)) a0 Z = true := hw _ (List.mem_of_getElem? (i := 292) rfl)
theorem own_w293 {Z : State} {a0 : Array Value} (hw : ∀ d ∈ tables_1, d.before a0 Z = true) : Jvm.Cond.before (Jvm.Cond.publicMethod ({ cls := "java/util/LinkedHashMap$LinkedHashIterator", name := "hasNext", desc := "()Z" } : Jvm.MethodName)) a0 Z = true := hw _ (List.mem_of_getElem? (i := 293) rfl)
theorem own_w294 {Z : State} {a0 : Array Value} (hw : ∀ d ∈ tables_1, d.before a0 Z = true) : Jvm.Cond.before (Jvm.Cond.unhidden "java/util/LinkedHashMap$LinkedKeyIterator" "hasNext" "()Z") a0 Z = true := hw _ (List.mem_of_getElem? (i := 294) rfl)
theorem own_w295 {Z : State} {a0 : Array Value} (hw : ∀ d ∈ tables_1, d.before a0 Z = true) : Jvm.Cond.before (Jvm.Cond.castable "java/util/LinkedHashMap$LinkedKeyIterator" "java/util/Iterator") a0 Z = true := hw _ (List.mem_of_getElem? (i := 295) rfl)
theorem own_w296 {Z : State} {a0 : Array Value} (hw : ∀ d ∈ tables_1, d.before a0 Z = true) : Jvm.Cond.before (Jvm.Cond.code ({ cls := "java/util/LinkedHashMap$LinkedHashIterator", name := "hasNext", desc := "()Z" } : Jvm.MethodName) jdk_2616_method_2_code (1 : Nat) (Option.some Jvm.ClassFile.FieldType.boolean)) a0 Z = true := hw _ (List.mem_of_getElem? (i := 296) rfl)
theorem own_w297 {Z : State} {a0 : Array Value} (hw : ∀ d ∈ tables_1, d.before a0 Z = true) : Jvm.Cond.before (Jvm.Cond.classLink own_TT (83 : Nat) own_MB) a0 Z = true := hw _ (List.mem_of_getElem? (i := 297) rfl)
theorem own_w298 {Z : State} {a0 : Array Value} (hw : ∀ d ∈ tables_1, d.before a0 Z = true) : Jvm.Cond.before (Jvm.Cond.instantiable own_MB (2 : Nat)) a0 Z = true := hw _ (List.mem_of_getElem? (i := 298) rfl)
theorem own_w299 {Z : State} {a0 : Array Value} (hw : ∀ d ∈ tables_1, d.before a0 Z = true) : Jvm.Cond.before (Jvm.Cond.initialized own_MB) a0 Z = true := hw _ (List.mem_of_getElem? (i := 299) rfl)
theorem own_w300 {Z : State} {a0 : Array Value} (hw : ∀ d ∈ tables_1, d.before a0 Z = true) : Jvm.Cond.before (Jvm.Cond.methodLink own_TT (85 : Nat) ({ cls := own_MB, name := "<init>", desc := "([I[I)V" } : Jvm.MethodName)) a0 Z = true := hw _ (List.mem_of_getElem? (i := 300) rfl)
theorem own_w301 {Z : State} {a0 : Array Value} (hw : ∀ d ∈ tables_1, d.before a0 Z = true) : Jvm.Cond.before (Jvm.Cond.instanceMethod ({ cls := own_MB, name := "<init>", desc := "([I[I)V" } : Jvm.MethodName)) a0 Z = true := hw _ (List.mem_of_getElem? (i := 301) rfl)
theorem own_w302 {Z : State} {a0 : Array Value} (hw : ∀ d ∈ tables_1, d.before a0 Z = true) : Jvm.Cond.before (Jvm.Cond.code ({ cls := own_MB, name := "<init>", desc := "([I[I)V" } : Jvm.MethodName) prog_20_method_1_code (3 : Nat) (Option.none : Option Jvm.ClassFile.FieldType)) a0 Z = true := hw _ (List.mem_of_getElem? (i := 302) rfl)
theorem own_w303 {Z : State} {a0 : Array Value} (hw : ∀ d ∈ tables_1, d.before a0 Z = true) : Jvm.Cond.before (Jvm.Cond.methodLink own_MB (1 : Nat) ({ cls := "java/lang/Record", name := "<init>", desc := "()V" } : Jvm.MethodName)) a0 Z = true := hw _ (List.mem_of_getElem? (i := 303) rfl)
theorem own_w304 {Z : State} {a0 : Array Value} (hw : ∀ d ∈ tables_1, d.before a0 Z = true) : Jvm.Cond.before (Jvm.Cond.instanceMethod ({ cls := "java/lang/Record", name := "<init>", desc := "()V" } : Jvm.MethodName)) a0 Z = true := hw _ (List.mem_of_getElem? (i := 304) rfl)
theorem own_w306 {Z : State} {a0 : Array Value} (hw : ∀ d ∈ tables_1, d.before a0 Z = true) : Jvm.Cond.before (Jvm.Cond.initialized "java/lang/Record") a0 Z = true := hw _ (List.mem_of_getElem? (i := 306) rfl)
theorem own_w307 {Z : State} {a0 : Array Value} (hw : ∀ d ∈ tables_1, d.before a0 Z = true) : Jvm.Cond.before (Jvm.Cond.code ({ cls := "java/lang/Record", name := "<init>", desc := "()V" } : Jvm.MethodName) jdk_30_method_1_code (1 : Nat) (Option.none : Option Jvm.ClassFile.FieldType)) a0 Z = true := hw _ (List.mem_of_getElem? (i := 307) rfl)
theorem own_w308 {Z : State} {a0 : Array Value} (hw : ∀ d ∈ tables_1, d.before a0 Z = true) : Jvm.Cond.before (Jvm.Cond.methodLink "java/lang/Record" (1 : Nat) ({ cls := "java/lang/Object", name := "<init>", desc := "()V" } : Jvm.MethodName)) a0 Z = true := hw _ (List.mem_of_getElem? (i := 308) rfl)
theorem own_w309 {Z : State} {a0 : Array Value} (hw : ∀ d ∈ tables_1, d.before a0 Z = true) : Jvm.Cond.before (Jvm.Cond.fieldLink own_MB (7 : Nat) own_MB "triples" "[I") a0 Z = true := hw _ (List.mem_of_getElem? (i := 309) rfl)
theorem own_w310 {Z : State} {a0 : Array Value} (hw : ∀ d ∈ tables_1, d.before a0 Z = true) : Jvm.Cond.before (Jvm.Cond.laysFinal own_MB own_MB "triples" "[I") a0 Z = true := hw _ (List.mem_of_getElem? (i := 310) rfl)
theorem own_w311 {Z : State} {a0 : Array Value} (hw : ∀ d ∈ tables_1, d.before a0 Z = true) : Jvm.Cond.before (Jvm.Cond.fieldLink own_MB (13 : Nat) own_MB "graphs" "[I") a0 Z = true := hw _ (List.mem_of_getElem? (i := 311) rfl)
theorem own_w312 {Z : State} {a0 : Array Value} (hw : ∀ d ∈ tables_1, d.before a0 Z = true) : Jvm.Cond.before (Jvm.Cond.laysFinal own_MB own_MB "graphs" "[I") a0 Z = true := hw _ (List.mem_of_getElem? (i := 312) rfl)
theorem own_w313 {Z : State} {a0 : Array Value} (hw : ∀ d ∈ tables_1, d.before a0 Z = true) : Jvm.Cond.before (Jvm.Cond.fieldLink own_RG (45 : Nat) own_RG "linkMemberships" "Lcom/example/weser/weser/core/Memberships;") a0 Z = true := hw _ (List.mem_of_getElem? (i := 313) rfl)
theorem own_w314 {Z : State} {a0 : Array Value} (hw : ∀ d ∈ tables_1, d.before a0 Z = true) : Jvm.Cond.before (Jvm.Cond.laysFinal own_RG own_RG "linkMemberships" "Lcom/example/weser/weser/core/Memberships;") a0 Z = true := hw _ (List.mem_of_getElem? (i := 314) rfl)
theorem own_w315 {Z : State} {a0 : Array Value} (hw : ∀ d ∈ tables_1, d.before a0 Z = true) : Jvm.Cond.before (Jvm.Cond.fieldLink own_RG (49 : Nat) own_RG "literalSubjects" "[I") a0 Z = true := hw _ (List.mem_of_getElem? (i := 315) rfl)
theorem own_w316 {Z : State} {a0 : Array Value} (hw : ∀ d ∈ tables_1, d.before a0 Z = true) : Jvm.Cond.before (Jvm.Cond.laysFinal own_RG own_RG "literalSubjects" "[I") a0 Z = true := hw _ (List.mem_of_getElem? (i := 316) rfl)
theorem own_w317 {Z : State} {a0 : Array Value} (hw : ∀ d ∈ tables_1, d.before a0 Z = true) : Jvm.Cond.before (Jvm.Cond.fieldLink own_RG (52 : Nat) own_RG "literalPredicates" "[I") a0 Z = true := hw _ (List.mem_of_getElem? (i := 317) rfl)
theorem own_w318 {Z : State} {a0 : Array Value} (hw : ∀ d ∈ tables_1, d.before a0 Z = true) : Jvm.Cond.before (Jvm.Cond.laysFinal own_RG own_RG "literalPredicates" "[I") a0 Z = true := hw _ (List.mem_of_getElem? (i := 318) rfl)
theorem own_w319 {Z : State} {a0 : Array Value} (hw : ∀ d ∈ tables_1, d.before a0 Z = true) : Jvm.Cond.before (Jvm.Cond.fieldLink own_RG (55 : Nat) own_RG "literalMemberships" "Lcom/example/weser/weser/core/Memberships;") a0 Z = true := hw _ (List.mem_of_getElem? (i := 319) rfl)
theorem own_w320 {Z : State} {a0 : Array Value} (hw : ∀ d ∈ tables_1, d.before a0 Z = true) : Jvm.Cond.before (Jvm.Cond.laysFinal own_RG own_RG "literalMemberships" "Lcom/example/weser/weser/core/Memberships;") a0 Z = true := hw _ (List.mem_of_getElem? (i := 320) rfl)
theorem own_w321 {Z : State} {a0 : Array Value} (hw : ∀ d ∈ tables_1, d.before a0 Z = true) : Jvm.Cond.before (Jvm.Cond.fieldLink own_RG (58 : Nat) own_RG "literalObjects" "[I") a0 Z = true := hw _ (List.mem_of_getElem? (i := 321) rfl)
theorem own_w322 {Z : State} {a0 : Array Value} (hw : ∀ d ∈ tables_1, d.before a0 Z = true) : Jvm.Cond.before (Jvm.Cond.laysFinal own_RG own_RG "literalObjects" "[I") a0 Z = true := hw _ (List.mem_of_getElem? (i := 322) rfl)
theorem own_w323 {Z : State} {a0 : Array Value} (hw : ∀ d ∈ tables_1, d.before a0 Z = true) : Jvm.Cond.before (Jvm.Cond.fieldLink own_RG (61 : Nat) own_RG "lexicalForms" "[Ljava/lang/String;") a0 Z = true := hw _ (List.mem_of_getElem? (i := 323) rfl)
theorem own_w324 {Z : State} {a0 : Array Value} (hw : ∀ d ∈ tables_1, d.before a0 Z = true) : Jvm.Cond.before (Jvm.Cond.laysFinal own_RG own_RG "lexicalForms" "[Ljava/lang/String;") a0 Z = true := hw _ (List.mem_of_getElem? (i := 324) rfl)
theorem own_w325 {Z : State} {a0 : Array Value} (hw : ∀ d ∈ tables_1, d.before a0 Z = true) : Jvm.Cond.before (Jvm.Cond.fieldLink own_RG (64 : Nat) own_RG "prefixes" "Lcom/example/weser/weser/core/Prefixes;") a0 Z = true := hw _ (List.mem_of_getElem? (i := 325) rfl)
theorem own_w326 {Z : State} {a0 : Array Value} (hw : ∀ d ∈ tables_1, d.before a0 Z = true) : Jvm.Cond.before (Jvm.Cond.laysFinal own_RG own_RG "prefixes" "Lcom/example/weser/weser/core/Prefixes;") a0 Z = true := hw _ (List.mem_of_getElem? (i := 326) rfl)
theorem own_w327 {Z : State} {a0 : Array Value} (hw : ∀ d ∈ tables_1, d.before a0 Z = true) : Jvm.Cond.before (Jvm.Cond.methodLink x.cls (29 : Nat) ({ cls := own_RG, name := "lexicalForm", desc := "(I)Ljava/lang/String;" } : Jvm.MethodName)) a0 Z = true := hw _ (List.mem_of_getElem? (i := 327) rfl)
theorem own_w328 {Z : State} {a0 : Array Value} (hw : ∀ d ∈ tables_1, d.before a0 Z = true) : Jvm.Cond.before (Jvm.Cond.declares ({ cls := own_RG, name := "lexicalForm", desc := "(I)Ljava/lang/String;" } : Jvm.MethodName)) a0 Z = true := hw _ (List.mem_of_getElem? (i := 328) rfl)
theorem own_w329 {Z : State} {a0 : Array Value} (hw : ∀ d ∈ tables_1, d.before a0 Z = true) : Jvm.Cond.before (Jvm.Cond.instanceMethod ({ cls := own_RG, name := "lexicalForm", desc := "(I)Ljava/lang/String;" } : Jvm.MethodName)) a0 Z = true := hw _ (List.mem_of_getElem? (i := 329) rfl)
theorem own_w330 {Z : State} {a0 : Array Value} (hw : ∀ d ∈ tables_1, d.before a0 Z = true) : Jvm.Cond.before (Jvm.Cond.selects own_RG ({ cls := own_RG, name := "lexicalForm", desc := "(I)Ljava/lang/String;" } : Jvm.MethodName) ({ cls := own_RG, name := "lexicalForm", desc := "(I)Ljava/lang/String;" } : Jvm.MethodName)) a0 Z = true := hw _ (List.mem_of_getElem? (i := 330) rfl)
theorem own_w331 {Z : State} {a0 : Array Value} (hw : ∀ d ∈ tables_1, d.before a0 Z = true) : Jvm.Cond.before (Jvm.Cond.code ({ cls := own_RG, name := "lexicalForm", desc := "(I)Ljava/lang/String;" } : Jvm.MethodName) prog_29_method_17_code (2 : Nat) (Option.some (Jvm.ClassFile.FieldType.object "java/lang/String"))) a0 Z = true := hw _ (List.mem_of_getElem? (i := 331) rfl)
theorem own_w332 {Z : State} {a0 : Array Value} (hw : ∀ d ∈ tables_1, d.before a0 Z = true) : Jvm.Cond.before (Jvm.Cond.methodLink x.cls (33 : Nat) ({ cls := "java/lang/String", name := "equals", desc := "(Ljava/lang/Object;)Z" } : Jvm.MethodName)) a0 Z = true := hw _ (List.mem_of_getElem? (i := 332) rfl)
theorem own_w333 {Z : State} {a0 : Array Value} (hw : ∀ d ∈ tables_1, d.before a0 Z = true) : Jvm.Cond.before (Jvm.Cond.declares ({ cls := "java/lang/String", name := "equals", desc := "(Ljava/lang/Object;)Z" } : Jvm.MethodName)) a0 Z = true := hw _ (List.mem_of_getElem? (i := 333) rfl)
theorem own_w334 {Z : State} {a0 : Array Value} (hw : ∀ d ∈ tables_1, d.before a0 Z = true) : Jvm.Cond.before (Jvm.Cond.instanceMethod ({ cls := "java/lang/String", name := "equals", desc := "(Ljava/lang/Object;)Z" } : Jvm.MethodName)) a0 Z = true := hw _ (List.mem_of_getElem? (i := 334) rfl)
theorem own_w335 {Z : State} {a0 : Array Value} (hw : ∀ d ∈ tables_1, d.before a0 Z = true) : Jvm.Cond.before (Jvm.Cond.selects "java/lang/String" ({ cls := "java/lang/String", name := "equals", desc := "(Ljava/lang/Object;)Z" } : Jvm.MethodName) ({ cls := "java/lang/String", name := "equals", desc := "(Ljava/lang/Object;)Z" } : Jvm.MethodName)) a0 Z = true := hw _ (List.mem_of_getElem? (i := 335) rfl)
theorem own_w336 {Z : State} {a0 : Array Value} (hw : ∀ d ∈ tables_1, d.before a0 Z = true) : Jvm.Cond.before (Jvm.Cond.code ({ cls := "java/lang/String", name := "equals", desc := "(Ljava/lang/Object;)Z" } : Jvm.MethodName) jdk_42_method_66_code (3 : Nat) (Option.some Jvm.ClassFile.FieldType.boolean)) a0 Z = true := hw _ (List.mem_of_getElem? (i := 336) rfl)
theorem pd_0 : parseMethodDescriptor "()V" = some ⟨[], none⟩ := by decide +kernel
theorem pd_1 : parseMethodDescriptor "(I)I" = some ⟨[.int], some .int⟩ := by decide +kernel
theorem pd_2 : parseMethodDescriptor "(F)Z" = some ⟨[.float], some .boolean⟩ := by decide +kernel
theorem pd_3 : parseMethodDescriptor "(IF)V" = some ⟨[.int, .float], none⟩ := by decide +kernel
theorem pd_4 : parseMethodDescriptor "(IFZ)V" = some ⟨[.int, .float, .boolean], none⟩ := by decide +kernel
theorem pd_5 : parseMethodDescriptor "(II)I" = some ⟨[.int, .int], some .int⟩ := by decide +kernel
theorem pd_6 : parseMethodDescriptor "([II)[I" = some ⟨[(.array .int), .int], some (.array .int)⟩ := by decide +kernel
theorem pd_7 : parseMethodDescriptor "()I" = some ⟨[], some .int⟩ := by decide +kernel
theorem pd_8 : parseMethodDescriptor "(Ljava/util/LinkedHashMap;Z)V" = some ⟨[(.object "java/util/LinkedHashMap"), .boolean], none⟩ := by decide +kernel
theorem pd_9 : parseMethodDescriptor "()Ljava/util/SequencedSet;" = some ⟨[], some (.object "java/util/SequencedSet")⟩ := by decide +kernel
theorem pd_10 : parseMethodDescriptor "()Ljava/util/Set;" = some ⟨[], some (.object "java/util/Set")⟩ := by decide +kernel
theorem pd_11 : parseMethodDescriptor "()Ljava/util/Iterator;" = some ⟨[], some (.object "java/util/Iterator")⟩ := by decide +kernel
theorem pd_12 : parseMethodDescriptor "()Z" = some ⟨[], some .boolean⟩ := by decide +kernel
theorem pd_13 : parseMethodDescriptor "([I[I)V" = some ⟨[(.array .int), (.array .int)], none⟩ := by decide +kernel
theorem pd_14 : parseMethodDescriptor "(C)Z" = some ⟨[.char], some .boolean⟩ := by decide +kernel
theorem pd_15 : parseMethodDescriptor "(C)[B" = some ⟨[.char], some (.array .byte)⟩ := by decide +kernel
theorem pd_16 : parseMethodDescriptor "([BB)V" = some ⟨[(.array .byte), .byte], none⟩ := by decide +kernel
theorem pd_17 : parseMethodDescriptor "()[I" = some ⟨[], some (.array .int)⟩ := by decide +kernel
theorem pd_18 : parseMethodDescriptor "()Lcom/example/weser/weser/core/Memberships;" = some ⟨[], some (.object own_MB)⟩ := by decide +kernel
theorem pd_19 : parseMethodDescriptor "(III)I" = some ⟨[.int, .int, .int], some .int⟩ := by decide +kernel
theorem pd_20 : parseMethodDescriptor "(C)Ljava/lang/String;" = some ⟨[.char], some (.object "java/lang/String")⟩ := by decide +kernel
theorem pd_21 : parseMethodDescriptor "(IIII)V" = some ⟨[.int, .int, .int, .int], none⟩ := by decide +kernel
theorem pd_22 : parseMethodDescriptor "([Ljava/lang/String;[Ljava/lang/String;[Ljava/lang/String;Lcom/example/weser/weser/core/TripleTable;Lcom/example/weser/weser/core/TripleTable;[Ljava/lang/String;Lcom/example/weser/weser/core/Prefixes;)V" = some ⟨[(.array (.object "java/lang/String")), (.array (.object "java/lang/String")), (.array (.object "java/lang/String")), (.object own_TT), (.object own_TT), (.array (.object "java/lang/String")), (.object own_PX)], none⟩ := by decide +kernel
theorem pd_23 : parseMethodDescriptor "(I)Ljava/lang/String;" = some ⟨[.int], some (.object "java/lang/String")⟩ := by decide +kernel
theorem pd_24 : parseMethodDescriptor "(Ljava/lang/Object;)Z" = some ⟨[(.object "java/lang/Object")], some .boolean⟩ := by decide +kernel
theorem dAC_0 : decode jdk_22_method_1_code 0 = .ok (.aload_n 0, 1) := by decide +kernel
theorem dAC_1 : decode jdk_22_method_1_code 1 = .ok (.invokespecial 1, 3) := by decide +kernel
theorem dAC_4 : decode jdk_22_method_1_code 4 = .ok (.return_, 1) := by decide +kernel
theorem ef_AC (mI : MethodId) (a : Addr) : entryFrame mI #[(.ref a)] 1 = mkF mI 0 #[.val (.ref a)] [] := by first | (simp [entryFrame, mkF, argsToLocals, Value.category]; done) | rfl
theorem pn_AC : plainName "java/util/AbstractCollection" = true := by first | decide +kernel | (simp [plainName, overriddenIn]; done)
set_option maxRecDepth 65536 in
set_option maxHeartbeats 40000000 in
theorem rmAC (lL : Launch) (Z : State) (a0 : Array Value) (hw : ∀ d ∈ tables_1, d.before a0 Z = true) (ws : List Jvm.Cond) (a : Addr) (h0 : Heap) (n0 : Nat) (Z0 : n0 ≤ h0.size) :
    MetFree lL (⟨"java/util/AbstractCollection", "<init>", "()V"⟩ : MethodName) (head1 (Jvm.Cond.code (⟨"java/util/AbstractCollection", "<init>", "()V"⟩ : MethodName) jdk_22_method_1_code 1 none :: ws) ({ frames := 1, cells := 0, slots := 0, locals := 12 } : Room)) (fun a_ U_ => a_ = #[(.ref a)] ∧ Z.Warmed39 U_.vm ∧ U_.heap = h0) (fun _ _ _ _ _ => True) (fun _ U_ o_ W_ => ∃ v_ L_, o_ = .returned v_ ∧ own_QV h0 n0 v_ W_.heap L_ ∧ FrameEnd U_ o_ W_ L_ ({ frames := 1, cells := 0, slots := 0, locals := 12 } : Room).cells ({ frames := 1, cells := 0, slots := 0, locals := 12 } : Room).slots) := by
  refine MetFree.of_bodySF (plainFor_of_name pn_AC) hisR ?_
  intro pP eE sS mI args below meth cC s₁ Bd hml0 hP hK
  obtain ⟨rfl, hZ, hh⟩ := hP
  have hx := Bd.exec
  have hby := Bd.bytes
  have hml : cC.maxLocals = 1 := hml0
  have hown : sS.vm.findClass "java/util/AbstractCollection" = some mI.cls := by have z := findClass_of_methodNamed Bd.named; exact z
  have hnm := (name_of_methodNamed Bd.named Bd.method).1
  have X0 : Stand pP lL eE ({ frames := 1, cells := 0, slots := 0, locals := 12 } : Room) sS mI #[(.ref a)] below meth cC s₁ [] 0 0 := Stand.of_body Bd
  have e0 : s₁.heap = h0 := by rw [← hh, Bd.state]; rfl
  have N0 := Fr.nil n0
  obtain ⟨G, hG, hst, hend⟩ := own_abs pP eE below sS (own_QV h0 n0) ({ frames := 1, cells := 0, slots := 0, locals := 12 } : Room).cells ({ frames := 1, cells := 0, slots := 0, locals := 12 } : Room).slots
  refine hG (S := s₁.setTop (entryFrame mI #[(.ref a)] 1)) (hst (fun t_ kt_ => castTop (ef_AC mI a) kt_) ?_)
  show G (s₁.setTop (mkF mI 0 #[.val (.ref a)] []))
  refine o_aloadN hst X0.here hx (hb hby dAC_0) (pc' := 1) rfl rfl rfl ?_
  obtain ⟨T_1, X_1, e_1, st_1⟩ := initO X0 hx hZ hown (own_w70 hw) (own_w22 hw) (own_w23 hw) e0 (g := (mkF mI 1 #[.val (.ref a)] [(.ref a)])) rfl (by rw [hml]; rfl) rfl (hb hby dAC_1) (by decide) (W := 0) (by show 2 * 0 + _ ≤ _; exact Nat.le_of_eq rfl) (by decide)
  refine hst st_1 ?_
  show G (T_1.setTop (mkF mI 4 #[.val (.ref a)] []))
  exact hend (own_goVoid X_1 hx Bd.returns (hb hby dAC_4) Bd.notSynchronized (by rw [e_1]; exact ⟨rfl, N0, rfl⟩) (by decide) (by decide))
theorem dAS_0 : decode jdk_91_method_1_code 0 = .ok (.aload_n 0, 1) := by decide +kernel
theorem dAS_1 : decode jdk_91_method_1_code 1 = .ok (.invokespecial 1, 3) := by decide +kernel
theorem dAS_4 : decode jdk_91_method_1_code 4 = .ok (.return_, 1) := by decide +kernel
theorem ef_AS (mI : MethodId) (a : Addr) : entryFrame mI #[(.ref a)] 1 = mkF mI 0 #[.val (.ref a)] [] := by first | (simp [entryFrame, mkF, argsToLocals, Value.category]; done) | rfl
theorem pn_AS : plainName "java/util/AbstractSet" = true := by first | decide +kernel | (simp [plainName, overriddenIn]; done)
set_option maxRecDepth 65536 in
set_option maxHeartbeats 40000000 in
theorem rmAS (lL : Launch) (Z : State) (a0 : Array Value) (hw : ∀ d ∈ tables_1, d.before a0 Z = true) (ws : List Jvm.Cond) (a : Addr) (h0 : Heap) (n0 : Nat) (Z0 : n0 ≤ h0.size) :
    MetFree lL (⟨"java/util/AbstractSet", "<init>", "()V"⟩ : MethodName) (head1 (Jvm.Cond.code (⟨"java/util/AbstractSet", "<init>", "()V"⟩ : MethodName) jdk_91_method_1_code 1 none :: ws) ({ frames := 2, cells := 0, slots := 0, locals := 24 } : Room)) (fun a_ U_ => a_ = #[(.ref a)] ∧ Z.Warmed39 U_.vm ∧ U_.heap = h0) (fun _ _ _ _ _ => True) (fun _ U_ o_ W_ => ∃ v_ L_, o_ = .returned v_ ∧ own_QV h0 n0 v_ W_.heap L_ ∧ FrameEnd U_ o_ W_ L_ ({ frames := 2, cells := 0, slots := 0, locals := 24 } : Room).cells ({ frames := 2, cells := 0, slots := 0, locals := 24 } : Room).slots) := by
  refine MetFree.of_bodySF (plainFor_of_name pn_AS) hisR ?_
  intro pP eE sS mI args below meth cC s₁ Bd hml0 hP hK
  obtain ⟨rfl, hZ, hh⟩ := hP
  have hx := Bd.exec
  have hby := Bd.bytes
  have hml : cC.maxLocals = 1 := hml0
  have hown : sS.vm.findClass "java/util/AbstractSet" = some mI.cls := by have z := findClass_of_methodNamed Bd.named; exact z
  have hnm := (name_of_methodNamed Bd.named Bd.method).1
  have X0 : Stand pP lL eE ({ frames := 2, cells := 0, slots := 0, locals := 24 } : Room) sS mI #[(.ref a)] below meth cC s₁ [] 0 0 := Stand.of_body Bd
  have e0 : s₁.heap = h0 := by rw [← hh, Bd.state]; rfl
  have N0 := Fr.nil n0
  obtain ⟨G, hG, hst, hend⟩ := own_abs pP eE below sS (own_QV h0 n0) ({ frames := 2, cells := 0, slots := 0, locals := 24 } : Room).cells ({ frames := 2, cells := 0, slots := 0, locals := 24 } : Room).slots
  refine hG (S := s₁.setTop (entryFrame mI #[(.ref a)] 1)) (hst (fun t_ kt_ => castTop (ef_AS mI a) kt_) ?_)
  show G (s₁.setTop (mkF mI 0 #[.val (.ref a)] []))
  refine o_aloadN hst X0.here hx (hb hby dAS_0) (pc' := 1) rfl rfl rfl ?_
  obtain ⟨_, _, ⟨T_1, L_1, k_1, n_1⟩, -, X_1, ⟨Lc_1, hQ_1, l_1, y_1, z_1⟩, st_1⟩ := X0.specialBack hx (y := (⟨"java/util/AbstractCollection", "<init>", "()V"⟩ : MethodName)) rfl hown (mvT hZ (own_w64 hw)) (mvT hZ (own_w65 hw)) (mvT hZ (own_w69 hw)) (by decide) (backOf (W := 0) (rmAC lL Z a0 hw [] a  h0 n0 Z0) hZ (own_w69 hw) (own_w68 hw) (by decide) (by decide)) (g := (mkF mI 1 #[.val (.ref a)] [(.ref a)])) rfl (by rw [hml]; rfl) (Steps.refl _) (a := a) (argsL := []) (rest := []) (lenOf pd_0 rfl) rfl (by show 2 * 0 + _ ≤ _; exact Nat.le_of_eq rfl) (hb hby dAS_1) (fun _ _ => ⟨rfl, e0, (by decide : 0 + 0 ≤ _), (by decide : 0 + 0 ≤ _)⟩)
  dsimp only [Pt.U, Pt.locs, Pt.cells, Pt.slots] at X_1 l_1 y_1 z_1 st_1 hQ_1
  subst l_1 y_1 z_1
  obtain ⟨rfl, N_1q, eh_1⟩ := hQ_1
  have N_1 := Fr.app N0 N_1q
  refine hst (fun _ kt => st_1.trans kt) ?_
  show G (T_1.setTop (mkF mI 4 #[.val (.ref a)] []))
  exact hend (own_goVoid X_1 hx Bd.returns (hb hby dAS_4) Bd.notSynchronized (by rw [eh_1]; exact ⟨rfl, N_1, rfl⟩) (by decide) (by decide))
theorem dAM_0 : decode jdk_71_method_1_code 0 = .ok (.aload_n 0, 1) := by decide +kernel
theorem dAM_1 : decode jdk_71_method_1_code 1 = .ok (.invokespecial 1, 3) := by decide +kernel
theorem dAM_4 : decode jdk_71_method_1_code 4 = .ok (.return_, 1) := by decide +kernel
theorem ef_AM (mI : MethodId) (a : Addr) : entryFrame mI #[(.ref a)] 1 = mkF mI 0 #[.val (.ref a)] [] := by first | (simp [entryFrame, mkF, argsToLocals, Value.category]; done) | rfl
theorem pn_AM : plainName "java/util/AbstractMap" = true := by first | decide +kernel | (simp [plainName, overriddenIn]; done)
set_option maxRecDepth 65536 in
set_option maxHeartbeats 40000000 in
theorem rmAM (lL : Launch) (Z : State) (a0 : Array Value) (hw : ∀ d ∈ tables_1, d.before a0 Z = true) (ws : List Jvm.Cond) (a : Addr) (h0 : Heap) (n0 : Nat) (Z0 : n0 ≤ h0.size) :
    MetFree lL (⟨"java/util/AbstractMap", "<init>", "()V"⟩ : MethodName) (head1 (Jvm.Cond.code (⟨"java/util/AbstractMap", "<init>", "()V"⟩ : MethodName) jdk_71_method_1_code 1 none :: ws) ({ frames := 1, cells := 0, slots := 0, locals := 12 } : Room)) (fun a_ U_ => a_ = #[(.ref a)] ∧ Z.Warmed39 U_.vm ∧ U_.heap = h0) (fun _ _ _ _ _ => True) (fun _ U_ o_ W_ => ∃ v_ L_, o_ = .returned v_ ∧ own_QV h0 n0 v_ W_.heap L_ ∧ FrameEnd U_ o_ W_ L_ ({ frames := 1, cells := 0, slots := 0, locals := 12 } : Room).cells ({ frames := 1, cells := 0, slots := 0, locals := 12 } : Room).slots) := by
  refine MetFree.of_bodySF (plainFor_of_name pn_AM) hisR ?_
  intro pP eE sS mI args below meth cC s₁ Bd hml0 hP hK
  obtain ⟨rfl, hZ, hh⟩ := hP
  have hx := Bd.exec
  have hby := Bd.bytes
  have hml : cC.maxLocals = 1 := hml0
  have hown : sS.vm.findClass "java/util/AbstractMap" = some mI.cls := by have z := findClass_of_methodNamed Bd.named; exact z
  have hnm := (name_of_methodNamed Bd.named Bd.method).1
  have X0 : Stand pP lL eE ({ frames := 1, cells := 0, slots := 0, locals := 12 } : Room) sS mI #[(.ref a)] below meth cC s₁ [] 0 0 := Stand.of_body Bd
  have e0 : s₁.heap = h0 := by rw [← hh, Bd.state]; rfl
  have N0 := Fr.nil n0
  obtain ⟨G, hG, hst, hend⟩ := own_abs pP eE below sS (own_QV h0 n0) ({ frames := 1, cells := 0, slots := 0, locals := 12 } : Room).cells ({ frames := 1, cells := 0, slots := 0, locals := 12 } : Room).slots
  refine hG (S := s₁.setTop (entryFrame mI #[(.ref a)] 1)) (hst (fun t_ kt_ => castTop (ef_AM mI a) kt_) ?_)
  show G (s₁.setTop (mkF mI 0 #[.val (.ref a)] []))
  refine o_aloadN hst X0.here hx (hb hby dAM_0) (pc' := 1) rfl rfl rfl ?_
  obtain ⟨T_1, X_1, e_1, st_1⟩ := initO X0 hx hZ hown (own_w90 hw) (own_w22 hw) (own_w23 hw) e0 (g := (mkF mI 1 #[.val (.ref a)] [(.ref a)])) rfl (by rw [hml]; rfl) rfl (hb hby dAM_1) (by decide) (W := 0) (by show 2 * 0 + _ ≤ _; exact Nat.le_of_eq rfl) (by decide)
  refine hst st_1 ?_
  show G (T_1.setTop (mkF mI 4 #[.val (.ref a)] []))
  exact hend (own_goVoid X_1 hx Bd.returns (hb hby dAM_4) Bd.notSynchronized (by rw [e_1]; exact ⟨rfl, N0, rfl⟩) (by decide) (by decide))
theorem dRC_0 : decode jdk_30_method_1_code 0 = .ok (.aload_n 0, 1) := by decide +kernel
theorem dRC_1 : decode jdk_30_method_1_code 1 = .ok (.invokespecial 1, 3) := by decide +kernel
theorem dRC_4 : decode jdk_30_method_1_code 4 = .ok (.return_, 1) := by decide +kernel
theorem ef_RC (mI : MethodId) (a : Addr) : entryFrame mI #[(.ref a)] 1 = mkF mI 0 #[.val (.ref a)] [] := by first | (simp [entryFrame, mkF, argsToLocals, Value.category]; done) | rfl
theorem pn_RC : plainName "java/lang/Record" = true := by first | decide +kernel | (simp [plainName, overriddenIn]; done)
set_option maxRecDepth 65536 in
set_option maxHeartbeats 40000000 in
theorem rmRC (lL : Launch) (Z : State) (a0 : Array Value) (hw : ∀ d ∈ tables_1, d.before a0 Z = true) (ws : List Jvm.Cond) (a : Addr) (h0 : Heap) (n0 : Nat) (Z0 : n0 ≤ h0.size) :
    MetFree lL (⟨"java/lang/Record", "<init>", "()V"⟩ : MethodName) (head1 (Jvm.Cond.code (⟨"java/lang/Record", "<init>", "()V"⟩ : MethodName) jdk_30_method_1_code 1 none :: ws) ({ frames := 1, cells := 0, slots := 0, locals := 12 } : Room)) (fun a_ U_ => a_ = #[(.ref a)] ∧ Z.Warmed39 U_.vm ∧ U_.heap = h0) (fun _ _ _ _ _ => True) (fun _ U_ o_ W_ => ∃ v_ L_, o_ = .returned v_ ∧ own_QV h0 n0 v_ W_.heap L_ ∧ FrameEnd U_ o_ W_ L_ ({ frames := 1, cells := 0, slots := 0, locals := 12 } : Room).cells ({ frames := 1, cells := 0, slots := 0, locals := 12 } : Room).slots) := by
  refine MetFree.of_bodySF (plainFor_of_name pn_RC) hisR ?_
  intro pP eE sS mI args below meth cC s₁ Bd hml0 hP hK
  obtain ⟨rfl, hZ, hh⟩ := hP
  have hx := Bd.exec
  have hby := Bd.bytes
  have hml : cC.maxLocals = 1 := hml0
  have hown : sS.vm.findClass "java/lang/Record" = some mI.cls := by have z := findClass_of_methodNamed Bd.named; exact z
  have hnm := (name_of_methodNamed Bd.named Bd.method).1
  have X0 : Stand pP lL eE ({ frames := 1, cells := 0, slots := 0, locals := 12 } : Room) sS mI #[(.ref a)] below meth cC s₁ [] 0 0 := Stand.of_body Bd
  have e0 : s₁.heap = h0 := by rw [← hh, Bd.state]; rfl
  have N0 := Fr.nil n0
  obtain ⟨G, hG, hst, hend⟩ := own_abs pP eE below sS (own_QV h0 n0) ({ frames := 1, cells := 0, slots := 0, locals := 12 } : Room).cells ({ frames := 1, cells := 0, slots := 0, locals := 12 } : Room).slots
  refine hG (S := s₁.setTop (entryFrame mI #[(.ref a)] 1)) (hst (fun t_ kt_ => castTop (ef_RC mI a) kt_) ?_)
  show G (s₁.setTop (mkF mI 0 #[.val (.ref a)] []))
  refine o_aloadN hst X0.here hx (hb hby dRC_0) (pc' := 1) rfl rfl rfl ?_
  obtain ⟨T_1, X_1, e_1, st_1⟩ := initO X0 hx hZ hown (own_w308 hw) (own_w22 hw) (own_w23 hw) e0 (g := (mkF mI 1 #[.val (.ref a)] [(.ref a)])) rfl (by rw [hml]; rfl) rfl (hb hby dRC_1) (by decide) (W := 0) (by show 2 * 0 + _ ≤ _; exact Nat.le_of_eq rfl) (by decide)
  refine hst st_1 ?_
  show G (T_1.setTop (mkF mI 4 #[.val (.ref a)] []))
  exact hend (own_goVoid X_1 hx Bd.returns (hb hby dRC_4) Bd.notSynchronized (by rw [e_1]; exact ⟨rfl, N0, rfl⟩) (by decide) (by decide))
theorem dfn_0 : decode jdk_118_method_6_code 0 = .ok (.fload_n 0, 1) := by decide +kernel
theorem dfn_1 : decode jdk_118_method_6_code 1 = .ok (.fload_n 0, 1) := by decide +kernel
theorem dfn_2 : decode jdk_118_method_6_code 2 = .ok (.fcmp .l, 1) := by decide +kernel
theorem dfn_3 : decode jdk_118_method_6_code 3 = .ok (.ifCond .eq 7, 3) := by decide +kernel
theorem dfn_10 : decode jdk_118_method_6_code 10 = .ok (.iconst 0, 1) := by decide +kernel
theorem dfn_11 : decode jdk_118_method_6_code 11 = .ok (.ireturn, 1) := by decide +kernel
theorem ef_fn (mI : MethodId)  : entryFrame mI #[(.float (1061158912 : UInt32))] 1 = mkF mI 0 #[.val (.float (1061158912 : UInt32))] [] := by first | (simp [entryFrame, mkF, argsToLocals, Value.category]; done) | rfl
theorem pn_fn : plainFor (⟨"java/lang/Float", "isNaN", "(F)Z"⟩ : MethodName) = true := by decide +kernel
set_option maxRecDepth 65536 in
set_option maxHeartbeats 40000000 in
theorem rmfn (lL : Launch) (Z : State) (a0 : Array Value) (hw : ∀ d ∈ tables_1, d.before a0 Z = true) (ws : List Jvm.Cond)  (h0 : Heap) (n0 : Nat) (Z0 : n0 ≤ h0.size) :
    MetFree lL (⟨"java/lang/Float", "isNaN", "(F)Z"⟩ : MethodName) (head1 (Jvm.Cond.code (⟨"java/lang/Float", "isNaN", "(F)Z"⟩ : MethodName) jdk_118_method_6_code 1 (some .boolean) :: ws) ({ frames := 0, cells := 0, slots := 0, locals := 0 } : Room)) (fun a_ U_ => a_ = #[(.float (1061158912 : UInt32))] ∧ Z.Warmed39 U_.vm ∧ U_.heap = h0) (fun _ _ _ _ _ => True) (fun _ U_ o_ W_ => ∃ v_ L_, o_ = .returned v_ ∧ own_QI (0 : Int32) h0 n0 v_ W_.heap L_ ∧ FrameEnd U_ o_ W_ L_ ({ frames := 0, cells := 0, slots := 0, locals := 0 } : Room).cells ({ frames := 0, cells := 0, slots := 0, locals := 0 } : Room).slots) := by
  refine MetFree.of_bodySF pn_fn hisR ?_
  intro pP eE sS mI args below meth cC s₁ Bd hml0 hP hK
  obtain ⟨rfl, hZ, hh⟩ := hP
  have hx := Bd.exec
  have hby := Bd.bytes
  have hml : cC.maxLocals = 1 := hml0
  have hown : sS.vm.findClass "java/lang/Float" = some mI.cls := by have z := findClass_of_methodNamed Bd.named; exact z
  have hnm := (name_of_methodNamed Bd.named Bd.method).1
  have X0 : Stand pP lL eE ({ frames := 0, cells := 0, slots := 0, locals := 0 } : Room) sS mI #[(.float (1061158912 : UInt32))] below meth cC s₁ [] 0 0 := Stand.of_body Bd
  have e0 : s₁.heap = h0 := by rw [← hh, Bd.state]; rfl
  have N0 := Fr.nil n0
  obtain ⟨G, hG, hst, hend⟩ := own_abs pP eE below sS (own_QI (0 : Int32) h0 n0) ({ frames := 0, cells := 0, slots := 0, locals := 0 } : Room).cells ({ frames := 0, cells := 0, slots := 0, locals := 0 } : Room).slots
  refine hG (S := s₁.setTop (entryFrame mI #[(.float (1061158912 : UInt32))] 1)) (hst (fun t_ kt_ => castTop (ef_fn mI ) kt_) ?_)
  show G (s₁.setTop (mkF mI 0 #[.val (.float (1061158912 : UInt32))] []))
  refine o_floadN hst X0.here hx (hb hby dfn_0) (pc' := 1) rfl rfl ?_
  refine o_floadN hst X0.here hx (hb hby dfn_1) (pc' := 2) rfl rfl ?_
  refine hst (fun _ kt => XS.fcmpS X0.here hx rfl (hb hby dfn_2) rfl (v := (0 : Int32)) (by decide +kernel) kt) ?_
  show G (s₁.setTop (mkF mI 3 #[.val (.float (1061158912 : UInt32))] [(.int (0 : Int32))]))
  have hc3 : (0 : Int32) = (0 : Int32) := rfl
  refine hst (fun _ kt => XS.ifYes X0.here hx rfl (pc0 := 3) (pc' := 10) rfl (hb hby dfn_3) rfl ((if0 _ _).trans (teq hc3).1) (by decide) (by decide) kt) ?_
  show G (s₁.setTop (mkF mI 10 #[.val (.float (1061158912 : UInt32))] []))
  refine o_iconst hst X0.here hx (hb hby dfn_10) (pc' := 11) rfl (z := (0 : Int32)) rfl ?_
  exact hend (own_goRet X0 hx Bd.returns rfl (Or.inl ⟨rfl, by simp, _, rfl⟩) (hb hby dfn_11) Bd.notSynchronized (by rw [e0]; exact ⟨rfl, N0, rfl⟩) (by decide) (by decide))
theorem dnz_0 : decode jdk_33_method_47_code 0 = .ok (.iload_n 0, 1) := by decide +kernel
theorem dnz_1 : decode jdk_33_method_47_code 1 = .ok (.ifCond .gt 14, 3) := by decide +kernel
theorem dnz_15 : decode jdk_33_method_47_code 15 = .ok (.bipush 31, 2) := by decide +kernel
theorem dnz_17 : decode jdk_33_method_47_code 17 = .ok (.istore_n 1, 1) := by decide +kernel
theorem dnz_18 : decode jdk_33_method_47_code 18 = .ok (.iload_n 0, 1) := by decide +kernel
theorem dnz_19 : decode jdk_33_method_47_code 19 = .ok (.ldc_w 264, 3) := by decide +kernel
theorem dnz_22 : decode jdk_33_method_47_code 22 = .ok (.if_icmp .lt 11, 3) := by decide +kernel
theorem dnz_33 : decode jdk_33_method_47_code 33 = .ok (.iload_n 0, 1) := by decide +kernel
theorem dnz_34 : decode jdk_33_method_47_code 34 = .ok (.sipush 256, 3) := by decide +kernel
theorem dnz_37 : decode jdk_33_method_47_code 37 = .ok (.if_icmp .lt 11, 3) := by decide +kernel
theorem dnz_48 : decode jdk_33_method_47_code 48 = .ok (.iload_n 0, 1) := by decide +kernel
theorem dnz_49 : decode jdk_33_method_47_code 49 = .ok (.bipush 16, 2) := by decide +kernel
theorem dnz_51 : decode jdk_33_method_47_code 51 = .ok (.if_icmp .lt 10, 3) := by decide +kernel
theorem dnz_61 : decode jdk_33_method_47_code 61 = .ok (.iload_n 0, 1) := by decide +kernel
theorem dnz_62 : decode jdk_33_method_47_code 62 = .ok (.iconst 4, 1) := by decide +kernel
theorem dnz_63 : decode jdk_33_method_47_code 63 = .ok (.if_icmp .lt 10, 3) := by decide +kernel
theorem dnz_66 : decode jdk_33_method_47_code 66 = .ok (.iinc 1 (-2), 3) := by decide +kernel
theorem dnz_69 : decode jdk_33_method_47_code 69 = .ok (.iload_n 0, 1) := by decide +kernel
theorem dnz_70 : decode jdk_33_method_47_code 70 = .ok (.iconst 2, 1) := by decide +kernel
theorem dnz_71 : decode jdk_33_method_47_code 71 = .ok (.iushr, 1) := by decide +kernel
theorem dnz_72 : decode jdk_33_method_47_code 72 = .ok (.istore_n 0, 1) := by decide +kernel
theorem dnz_73 : decode jdk_33_method_47_code 73 = .ok (.iload_n 1, 1) := by decide +kernel
theorem dnz_74 : decode jdk_33_method_47_code 74 = .ok (.iload_n 0, 1) := by decide +kernel
theorem dnz_75 : decode jdk_33_method_47_code 75 = .ok (.iconst 1, 1) := by decide +kernel
theorem dnz_76 : decode jdk_33_method_47_code 76 = .ok (.iushr, 1) := by decide +kernel
theorem dnz_77 : decode jdk_33_method_47_code 77 = .ok (.isub, 1) := by decide +kernel
theorem dnz_78 : decode jdk_33_method_47_code 78 = .ok (.ireturn, 1) := by decide +kernel
theorem ef_nz (mI : MethodId)  : entryFrame mI #[(.int (15 : Int32))] 2 = mkF mI 0 #[.val (.int (15 : Int32)), .unset] [] := by first | (simp [entryFrame, mkF, argsToLocals, Value.category]; done) | rfl
theorem pn_nz : plainName "java/lang/Integer" = true := by first | decide +kernel | (simp [plainName, overriddenIn]; done)
set_option maxRecDepth 65536 in
set_option maxHeartbeats 40000000 in
theorem rmnz (lL : Launch) (Z : State) (a0 : Array Value) (hw : ∀ d ∈ tables_1, d.before a0 Z = true) (ws : List Jvm.Cond)  (h0 : Heap) (n0 : Nat) (Z0 : n0 ≤ h0.size) :
    MetFree lL (⟨"java/lang/Integer", "numberOfLeadingZeros", "(I)I"⟩ : MethodName) (head1 (Jvm.Cond.code (⟨"java/lang/Integer", "numberOfLeadingZeros", "(I)I"⟩ : MethodName) jdk_33_method_47_code 2 (some .int) :: ws) ({ frames := 0, cells := 0, slots := 0, locals := 0 } : Room)) (fun a_ U_ => a_ = #[(.int (15 : Int32))] ∧ Z.Warmed39 U_.vm ∧ U_.heap = h0) (fun _ _ _ _ _ => True) (fun _ U_ o_ W_ => ∃ v_ L_, o_ = .returned v_ ∧ own_QI (28 : Int32) h0 n0 v_ W_.heap L_ ∧ FrameEnd U_ o_ W_ L_ ({ frames := 0, cells := 0, slots := 0, locals := 0 } : Room).cells ({ frames := 0, cells := 0, slots := 0, locals := 0 } : Room).slots) := by
  refine MetFree.of_bodySF (plainFor_of_name pn_nz) hisR ?_
  intro pP eE sS mI args below meth cC s₁ Bd hml0 hP hK
  obtain ⟨rfl, hZ, hh⟩ := hP
  have hx := Bd.exec
  have hby := Bd.bytes
  have hml : cC.maxLocals = 2 := hml0
  have hown : sS.vm.findClass "java/lang/Integer" = some mI.cls := by have z := findClass_of_methodNamed Bd.named; exact z
  have hnm := (name_of_methodNamed Bd.named Bd.method).1
  have X0 : Stand pP lL eE ({ frames := 0, cells := 0, slots := 0, locals := 0 } : Room) sS mI #[(.int (15 : Int32))] below meth cC s₁ [] 0 0 := Stand.of_body Bd
  have e0 : s₁.heap = h0 := by rw [← hh, Bd.state]; rfl
  have N0 := Fr.nil n0
  obtain ⟨G, hG, hst, hend⟩ := own_abs pP eE below sS (own_QI (28 : Int32) h0 n0) ({ frames := 0, cells := 0, slots := 0, locals := 0 } : Room).cells ({ frames := 0, cells := 0, slots := 0, locals := 0 } : Room).slots
  refine hG (S := s₁.setTop (entryFrame mI #[(.int (15 : Int32))] 2)) (hst (fun t_ kt_ => castTop (ef_nz mI ) kt_) ?_)
  show G (s₁.setTop (mkF mI 0 #[.val (.int (15 : Int32)), .unset] []))
  refine o_iloadN hst X0.here hx (hb hby dnz_0) (pc' := 1) rfl rfl ?_
  have hc1 : (0 : Int32) < (15 : Int32) := by decide
  refine hst (fun _ kt => XS.ifYes X0.here hx rfl (pc0 := 1) (pc' := 15) rfl (hb hby dnz_1) rfl ((if0 _ _).trans (tlt hc1).2.2.1) (by decide) (by decide) kt) ?_
  show G (s₁.setTop (mkF mI 15 #[.val (.int (15 : Int32)), .unset] []))
  refine o_bipush hst X0.here hx (hb hby dnz_15) (pc' := 17) rfl (z := (31 : Int32)) rfl ?_
  refine o_istoreN hst X0.here hx (hb hby dnz_17) (pc' := 18) rfl (Lt := #[.val (.int (15 : Int32)), .val (.int (31 : Int32))]) rfl ?_
  refine o_iloadN hst X0.here hx (hb hby dnz_18) (pc' := 19) rfl rfl ?_
  refine hst (X0.ldcwInt hx hown (mvT hZ (own_w105 hw)) (g := (mkF mI 19 #[.val (.int (15 : Int32)), .val (.int (31 : Int32))] [(.int (15 : Int32))])) rfl (hb hby dnz_19)) ?_
  show G (s₁.setTop (mkF mI 22 #[.val (.int (15 : Int32)), .val (.int (31 : Int32))] [(.int (65536 : Int32)), (.int (15 : Int32))]))
  have hc22 : (15 : Int32) < (65536 : Int32) := by decide
  refine hst (fun _ kt => XS.icmpYes X0.here hx rfl (pc0 := 22) (pc' := 33) rfl (hb hby dnz_22) rfl (tlt hc22).1 (by decide) (by decide) kt) ?_
  show G (s₁.setTop (mkF mI 33 #[.val (.int (15 : Int32)), .val (.int (31 : Int32))] []))
  refine o_iloadN hst X0.here hx (hb hby dnz_33) (pc' := 34) rfl rfl ?_
  refine o_sipush hst X0.here hx (hb hby dnz_34) (pc' := 37) rfl (z := (256 : Int32)) rfl ?_
  have hc37 : (15 : Int32) < (256 : Int32) := by decide
  refine hst (fun _ kt => XS.icmpYes X0.here hx rfl (pc0 := 37) (pc' := 48) rfl (hb hby dnz_37) rfl (tlt hc37).1 (by decide) (by decide) kt) ?_
  show G (s₁.setTop (mkF mI 48 #[.val (.int (15 : Int32)), .val (.int (31 : Int32))] []))
  refine o_iloadN hst X0.here hx (hb hby dnz_48) (pc' := 49) rfl rfl ?_
  refine o_bipush hst X0.here hx (hb hby dnz_49) (pc' := 51) rfl (z := (16 : Int32)) rfl ?_
  have hc51 : (15 : Int32) < (16 : Int32) := by decide
  refine hst (fun _ kt => XS.icmpYes X0.here hx rfl (pc0 := 51) (pc' := 61) rfl (hb hby dnz_51) rfl (tlt hc51).1 (by decide) (by decide) kt) ?_
  show G (s₁.setTop (mkF mI 61 #[.val (.int (15 : Int32)), .val (.int (31 : Int32))] []))
  refine o_iloadN hst X0.here hx (hb hby dnz_61) (pc' := 62) rfl rfl ?_
  refine o_iconst hst X0.here hx (hb hby dnz_62) (pc' := 63) rfl (z := (4 : Int32)) rfl ?_
  have hc63 : ¬ ((15 : Int32) < (4 : Int32)) := by decide
  refine hst (fun _ kt => XS.icmpNo X0.here hx rfl (hb hby dnz_63) rfl (flt hc63).1 kt) ?_
  show G (s₁.setTop (mkF mI 66 #[.val (.int (15 : Int32)), .val (.int (31 : Int32))] []))
  refine o_iinc hst X0.here hx (hb hby dnz_66) (pc' := 69) rfl rfl (Lt := #[.val (.int (15 : Int32)), .val (.int ((31 : Int32) + (-2 : Int32)))]) rfl ?_
  rw [show ((31 : Int32) + (-2 : Int32)) = (29 : Int32) from by decide]
  show G (s₁.setTop (mkF mI 69 #[.val (.int (15 : Int32)), .val (.int (29 : Int32))] []))
  refine o_iloadN hst X0.here hx (hb hby dnz_69) (pc' := 70) rfl rfl ?_
  refine o_iconst hst X0.here hx (hb hby dnz_70) (pc' := 71) rfl (z := (2 : Int32)) rfl ?_
  refine o_iushr hst X0.here hx (hb hby dnz_71) (pc' := 72) rfl ?_
  rw [show (((15 : Int32).toUInt32 >>> ((2 : Int32) &&& 31).toUInt32).toInt32) = (3 : Int32) from by decide]
  show G (s₁.setTop (mkF mI 72 #[.val (.int (15 : Int32)), .val (.int (29 : Int32))] [(.int (3 : Int32))]))
  refine o_istoreN hst X0.here hx (hb hby dnz_72) (pc' := 73) rfl (Lt := #[.val (.int (3 : Int32)), .val (.int (29 : Int32))]) rfl ?_
  refine o_iloadN hst X0.here hx (hb hby dnz_73) (pc' := 74) rfl rfl ?_
  refine o_iloadN hst X0.here hx (hb hby dnz_74) (pc' := 75) rfl rfl ?_
  refine o_iconst hst X0.here hx (hb hby dnz_75) (pc' := 76) rfl (z := (1 : Int32)) rfl ?_
  refine o_iushr hst X0.here hx (hb hby dnz_76) (pc' := 77) rfl ?_
  rw [show (((3 : Int32).toUInt32 >>> ((1 : Int32) &&& 31).toUInt32).toInt32) = (1 : Int32) from by decide]
  show G (s₁.setTop (mkF mI 77 #[.val (.int (3 : Int32)), .val (.int (29 : Int32))] [(.int (1 : Int32)), (.int (29 : Int32))]))
  refine o_isub hst X0.here hx (hb hby dnz_77) (pc' := 78) rfl ?_
  rw [show ((29 : Int32) - (1 : Int32)) = (28 : Int32) from by decide]
  show G (s₁.setTop (mkF mI 78 #[.val (.int (3 : Int32)), .val (.int (29 : Int32))] [(.int (28 : Int32))]))
  exact hend (own_goRet X0 hx Bd.returns rfl (Or.inl ⟨rfl, by simp, _, rfl⟩) (hb hby dnz_78) Bd.notSynchronized (by rw [e0]; exact ⟨rfl, N0, rfl⟩) (by decide) (by decide))
theorem dts_0 : decode jdk_69_method_4_code 0 = .ok (.iconst (-1), 1) := by decide +kernel
theorem dts_1 : decode jdk_69_method_4_code 1 = .ok (.iload_n 0, 1) := by decide +kernel
theorem dts_2 : decode jdk_69_method_4_code 2 = .ok (.iconst 1, 1) := by decide +kernel
theorem dts_3 : decode jdk_69_method_4_code 3 = .ok (.isub, 1) := by decide +kernel
theorem dts_4 : decode jdk_69_method_4_code 4 = .ok (.invokestatic 34, 3) := by decide +kernel
theorem dts_7 : decode jdk_69_method_4_code 7 = .ok (.iushr, 1) := by decide +kernel
theorem dts_8 : decode jdk_69_method_4_code 8 = .ok (.istore_n 1, 1) := by decide +kernel
theorem dts_9 : decode jdk_69_method_4_code 9 = .ok (.iload_n 1, 1) := by decide +kernel
theorem dts_10 : decode jdk_69_method_4_code 10 = .ok (.ifCond .ge 7, 3) := by decide +kernel
theorem dts_17 : decode jdk_69_method_4_code 17 = .ok (.iload_n 1, 1) := by decide +kernel
theorem dts_18 : decode jdk_69_method_4_code 18 = .ok (.ldc 42, 2) := by decide +kernel
theorem dts_20 : decode jdk_69_method_4_code 20 = .ok (.if_icmp .lt 8, 3) := by decide +kernel
theorem dts_28 : decode jdk_69_method_4_code 28 = .ok (.iload_n 1, 1) := by decide +kernel
theorem dts_29 : decode jdk_69_method_4_code 29 = .ok (.iconst 1, 1) := by decide +kernel
theorem dts_30 : decode jdk_69_method_4_code 30 = .ok (.iadd, 1) := by decide +kernel
theorem dts_31 : decode jdk_69_method_4_code 31 = .ok (.ireturn, 1) := by decide +kernel
theorem ef_ts (mI : MethodId)  : entryFrame mI #[(.int (16 : Int32))] 2 = mkF mI 0 #[.val (.int (16 : Int32)), .unset] [] := by first | (simp [entryFrame, mkF, argsToLocals, Value.category]; done) | rfl
theorem pn_ts : plainName "java/util/HashMap" = true := by first | decide +kernel | (simp [plainName, overriddenIn]; done)
set_option maxRecDepth 65536 in
set_option maxHeartbeats 40000000 in
theorem rmts (lL : Launch) (Z : State) (a0 : Array Value) (hw : ∀ d ∈ tables_1, d.before a0 Z = true) (ws : List Jvm.Cond)  (h0 : Heap) (n0 : Nat) (Z0 : n0 ≤ h0.size) :
    MetFree lL (⟨"java/util/HashMap", "tableSizeFor", "(I)I"⟩ : MethodName) (head1 (Jvm.Cond.code (⟨"java/util/HashMap", "tableSizeFor", "(I)I"⟩ : MethodName) jdk_69_method_4_code 2 (some .int) :: ws) ({ frames := 1, cells := 0, slots := 0, locals := 14 } : Room)) (fun a_ U_ => a_ = #[(.int (16 : Int32))] ∧ Z.Warmed39 U_.vm ∧ U_.heap = h0) (fun _ _ _ _ _ => True) (fun _ U_ o_ W_ => ∃ v_ L_, o_ = .returned v_ ∧ own_QI (16 : Int32) h0 n0 v_ W_.heap L_ ∧ FrameEnd U_ o_ W_ L_ ({ frames := 1, cells := 0, slots := 0, locals := 14 } : Room).cells ({ frames := 1, cells := 0, slots := 0, locals := 14 } : Room).slots) := by
  refine MetFree.of_bodySF (plainFor_of_name pn_ts) hisR ?_
  intro pP eE sS mI args below meth cC s₁ Bd hml0 hP hK
  obtain ⟨rfl, hZ, hh⟩ := hP
  have hx := Bd.exec
  have hby := Bd.bytes
  have hml : cC.maxLocals = 2 := hml0
  have hown : sS.vm.findClass "java/util/HashMap" = some mI.cls := by have z := findClass_of_methodNamed Bd.named; exact z
  have hnm := (name_of_methodNamed Bd.named Bd.method).1
  have X0 : Stand pP lL eE ({ frames := 1, cells := 0, slots := 0, locals := 14 } : Room) sS mI #[(.int (16 : Int32))] below meth cC s₁ [] 0 0 := Stand.of_body Bd
  have e0 : s₁.heap = h0 := by rw [← hh, Bd.state]; rfl
  have N0 := Fr.nil n0
  obtain ⟨G, hG, hst, hend⟩ := own_abs pP eE below sS (own_QI (16 : Int32) h0 n0) ({ frames := 1, cells := 0, slots := 0, locals := 14 } : Room).cells ({ frames := 1, cells := 0, slots := 0, locals := 14 } : Room).slots
  refine hG (S := s₁.setTop (entryFrame mI #[(.int (16 : Int32))] 2)) (hst (fun t_ kt_ => castTop (ef_ts mI ) kt_) ?_)
  show G (s₁.setTop (mkF mI 0 #[.val (.int (16 : Int32)), .unset] []))
  refine o_iconst hst X0.here hx (hb hby dts_0) (pc' := 1) rfl (z := (-1 : Int32)) rfl ?_
  refine o_iloadN hst X0.here hx (hb hby dts_1) (pc' := 2) rfl rfl ?_
  refine o_iconst hst X0.here hx (hb hby dts_2) (pc' := 3) rfl (z := (1 : Int32)) rfl ?_
  refine o_isub hst X0.here hx (hb hby dts_3) (pc' := 4) rfl ?_
  rw [show ((16 : Int32) - (1 : Int32)) = (15 : Int32) from by decide]
  show G (s₁.setTop (mkF mI 4 #[.val (.int (16 : Int32)), .unset] [(.int (15 : Int32)), (.int (-1 : Int32))]))
  obtain ⟨_, _, ⟨T_1, L_1, k_1, n_1⟩, -, X_1, ⟨Lc_1, hQ_1, l_1, y_1, z_1⟩, st_1⟩ := Jvm.LawKit.callS X0 hx (y := (⟨"java/lang/Integer", "numberOfLeadingZeros", "(I)I"⟩ : MethodName)) hown (mvT hZ (own_w101 hw)) (mvT hZ (own_w102 hw)) (mvT hZ (own_w103 hw)) (mvT hZ (own_w104 hw)) (by decide) (backOf (W := 1) (rmnz lL Z a0 hw []   h0 n0 Z0) hZ (own_w104 hw) (own_w103 hw) (by decide) (by decide)) (g := (mkF mI 4 #[.val (.int (16 : Int32)), .unset] [(.int (15 : Int32)), (.int (-1 : Int32))])) rfl (by rw [hml]; rfl) (argsL := [(.int (15 : Int32))]) (rest := [(.int (-1 : Int32))]) (lenOf pd_1 rfl) rfl (by show 2 * 0 + _ ≤ _; exact Nat.le_of_eq rfl) (hb hby dts_4) (fun _ _ => ⟨rfl, e0, (by decide : 0 + 0 ≤ _), (by decide : 0 + 0 ≤ _)⟩)
  dsimp only [Pt.U, Pt.locs, Pt.cells, Pt.slots] at X_1 l_1 y_1 z_1 st_1 hQ_1
  subst l_1 y_1 z_1
  obtain ⟨rfl, N_1q, eh_1⟩ := hQ_1
  have N_1 := Fr.app N0 N_1q
  refine hst (fun _ kt => st_1 _ kt) ?_
  show G (T_1.setTop (mkF mI 7 #[.val (.int (16 : Int32)), .unset] [(.int (28 : Int32)), (.int (-1 : Int32))]))
  refine o_iushr hst X_1.here hx (hb hby dts_7) (pc' := 8) rfl ?_
  rw [show (((-1 : Int32).toUInt32 >>> ((28 : Int32) &&& 31).toUInt32).toInt32) = (15 : Int32) from by decide]
  show G (T_1.setTop (mkF mI 8 #[.val (.int (16 : Int32)), .unset] [(.int (15 : Int32))]))
  refine o_istoreN hst X_1.here hx (hb hby dts_8) (pc' := 9) rfl (Lt := #[.val (.int (16 : Int32)), .val (.int (15 : Int32))]) rfl ?_
  refine o_iloadN hst X_1.here hx (hb hby dts_9) (pc' := 10) rfl rfl ?_
  have hc10 : ¬ ((15 : Int32) < (0 : Int32)) := by decide
  refine hst (fun _ kt => XS.ifYes X_1.here hx rfl (pc0 := 10) (pc' := 17) rfl (hb hby dts_10) rfl ((if0 _ _).trans (flt hc10).2.1) (by decide) (by decide) kt) ?_
  show G (T_1.setTop (mkF mI 17 #[.val (.int (16 : Int32)), .val (.int (15 : Int32))] []))
  refine o_iloadN hst X_1.here hx (hb hby dts_17) (pc' := 18) rfl rfl ?_
  refine hst (X_1.ldcInt hx hown (mvT hZ (own_w91 hw)) (g := (mkF mI 18 #[.val (.int (16 : Int32)), .val (.int (15 : Int32))] [(.int (15 : Int32))])) rfl (hb hby dts_18)) ?_
  show G (T_1.setTop (mkF mI 20 #[.val (.int (16 : Int32)), .val (.int (15 : Int32))] [(.int (1073741824 : Int32)), (.int (15 : Int32))]))
  have hc20 : (15 : Int32) < (1073741824 : Int32) := by decide
  refine hst (fun _ kt => XS.icmpYes X_1.here hx rfl (pc0 := 20) (pc' := 28) rfl (hb hby dts_20) rfl (tlt hc20).1 (by decide) (by decide) kt) ?_
  show G (T_1.setTop (mkF mI 28 #[.val (.int (16 : Int32)), .val (.int (15 : Int32))] []))
  refine o_iloadN hst X_1.here hx (hb hby dts_28) (pc' := 29) rfl rfl ?_
  refine o_iconst hst X_1.here hx (hb hby dts_29) (pc' := 30) rfl (z := (1 : Int32)) rfl ?_
  refine o_iadd hst X_1.here hx (hb hby dts_30) (pc' := 31) rfl ?_
  rw [show ((15 : Int32) + (1 : Int32)) = (16 : Int32) from by decide]
  show G (T_1.setTop (mkF mI 31 #[.val (.int (16 : Int32)), .val (.int (15 : Int32))] [(.int (16 : Int32))]))
  exact hend (own_goRet X_1 hx Bd.returns rfl (Or.inl ⟨rfl, by simp, _, rfl⟩) (hb hby dts_31) Bd.notSynchronized (by rw [eh_1]; exact ⟨rfl, N_1, rfl⟩) (by decide) (by decide))
def own_Qhm (Z : State) (a : Addr) (h0 : Heap) (n0 : Nat) (v : Option Value) (h : Heap) (L : List Loc) : Prop := v = none ∧ Fr n0 L ∧ Keep h0 h [a] ∧ Exa Z h a "java/util/LinkedHashMap" ∧ Fld Z h a "java/util/LinkedHashMap" "putMode" "I" (.int (0 : Int32)) ∧ Fld Z h a "java/util/LinkedHashMap" "accessOrder" "Z" (.int (0 : Int32)) ∧ Fld Z h a "java/util/HashMap" "size" "I" (.int (0 : Int32)) ∧ Fld Z h a "java/util/AbstractMap" "keySet" "Ljava/util/Set;" .null ∧ Fld Z h a "java/util/LinkedHashMap" "head" "Ljava/util/LinkedHashMap$Entry;" .null ∧ Fld Z h a "java/util/HashMap" "modCount" "I" (.int (0 : Int32))
theorem dhm_0 : decode jdk_69_method_5_code 0 = .ok (.aload_n 0, 1) := by decide +kernel
theorem dhm_1 : decode jdk_69_method_5_code 1 = .ok (.invokespecial 43, 3) := by decide +kernel
theorem dhm_4 : decode jdk_69_method_5_code 4 = .ok (.iload_n 1, 1) := by decide +kernel
theorem dhm_5 : decode jdk_69_method_5_code 5 = .ok (.ifCond .ge 30, 3) := by decide +kernel
theorem dhm_35 : decode jdk_69_method_5_code 35 = .ok (.iload_n 1, 1) := by decide +kernel
theorem dhm_36 : decode jdk_69_method_5_code 36 = .ok (.ldc 42, 2) := by decide +kernel
theorem dhm_38 : decode jdk_69_method_5_code 38 = .ok (.if_icmp .le 6, 3) := by decide +kernel
theorem dhm_44 : decode jdk_69_method_5_code 44 = .ok (.fload_n 2, 1) := by decide +kernel
theorem dhm_45 : decode jdk_69_method_5_code 45 = .ok (.fconst 0, 1) := by decide +kernel
theorem dhm_46 : decode jdk_69_method_5_code 46 = .ok (.fcmp .g, 1) := by decide +kernel
theorem dhm_47 : decode jdk_69_method_5_code 47 = .ok (.ifCond .le 10, 3) := by decide +kernel
theorem dhm_50 : decode jdk_69_method_5_code 50 = .ok (.fload_n 2, 1) := by decide +kernel
theorem dhm_51 : decode jdk_69_method_5_code 51 = .ok (.invokestatic 70, 3) := by decide +kernel
theorem dhm_54 : decode jdk_69_method_5_code 54 = .ok (.ifCond .eq 30, 3) := by decide +kernel
theorem dhm_84 : decode jdk_69_method_5_code 84 = .ok (.aload_n 0, 1) := by decide +kernel
theorem dhm_85 : decode jdk_69_method_5_code 85 = .ok (.fload_n 2, 1) := by decide +kernel
theorem dhm_86 : decode jdk_69_method_5_code 86 = .ok (.putfield 81, 3) := by decide +kernel
theorem dhm_89 : decode jdk_69_method_5_code 89 = .ok (.aload_n 0, 1) := by decide +kernel
theorem dhm_90 : decode jdk_69_method_5_code 90 = .ok (.iload_n 1, 1) := by decide +kernel
theorem dhm_91 : decode jdk_69_method_5_code 91 = .ok (.invokestatic 85, 3) := by decide +kernel
theorem dhm_94 : decode jdk_69_method_5_code 94 = .ok (.putfield 88, 3) := by decide +kernel
theorem dhm_97 : decode jdk_69_method_5_code 97 = .ok (.return_, 1) := by decide +kernel
theorem ef_hm (mI : MethodId) (a : Addr) : entryFrame mI #[(.ref a), (.int (16 : Int32)), (.float (1061158912 : UInt32))] 3 = mkF mI 0 #[.val (.ref a), .val (.int (16 : Int32)), .val (.float (1061158912 : UInt32))] [] := by first | (simp [entryFrame, mkF, argsToLocals, Value.category]; done) | rfl
theorem pn_hm : plainName "java/util/HashMap" = true := by first | decide +kernel | (simp [plainName, overriddenIn]; done)
set_option maxRecDepth 65536 in
set_option maxHeartbeats 40000000 in
theorem rmhm (lL : Launch) (Z : State) (a0 : Array Value) (hw : ∀ d ∈ tables_1, d.before a0 Z = true) (ws : List Jvm.Cond) (a : Addr) (h0 : Heap) (n0 : Nat) (Z0 : n0 ≤ h0.size) (F_loadFactor_a : Fld Z h0 a "java/util/HashMap" "loadFactor" "F" (defaultValue .float)) (F_threshold_a : Fld Z h0 a "java/util/HashMap" "threshold" "I" (.int (0 : Int32))) (F_putMode_a : Fld Z h0 a "java/util/LinkedHashMap" "putMode" "I" (.int (0 : Int32))) (F_accessOrder_a : Fld Z h0 a "java/util/LinkedHashMap" "accessOrder" "Z" (.int (0 : Int32))) (F_size_a : Fld Z h0 a "java/util/HashMap" "size" "I" (.int (0 : Int32))) (F_keySet_a : Fld Z h0 a "java/util/AbstractMap" "keySet" "Ljava/util/Set;" .null) (F_head_a : Fld Z h0 a "java/util/LinkedHashMap" "head" "Ljava/util/LinkedHashMap$Entry;" .null) (F_modCount_a : Fld Z h0 a "java/util/HashMap" "modCount" "I" (.int (0 : Int32))) (E_a : Exa Z h0 a "java/util/LinkedHashMap") (le_n0_a : n0 ≤ a) :
    MetFree lL (⟨"java/util/HashMap", "<init>", "(IF)V"⟩ : MethodName) (head1 (Jvm.Cond.code (⟨"java/util/HashMap", "<init>", "(IF)V"⟩ : MethodName) jdk_69_method_5_code 3 none :: ws) ({ frames := 2, cells := 0, slots := 0, locals := 28 } : Room)) (fun a_ U_ => a_ = #[(.ref a), (.int (16 : Int32)), (.float (1061158912 : UInt32))] ∧ Z.Warmed39 U_.vm ∧ U_.heap = h0) (fun _ _ _ _ _ => True) (fun _ U_ o_ W_ => ∃ v_ L_, o_ = .returned v_ ∧ own_Qhm Z a h0 n0 v_ W_.heap L_ ∧ FrameEnd U_ o_ W_ L_ ({ frames := 2, cells := 0, slots := 0, locals := 28 } : Room).cells ({ frames := 2, cells := 0, slots := 0, locals := 28 } : Room).slots) := by
  refine MetFree.of_bodySF (plainFor_of_name pn_hm) hisR ?_
  intro pP eE sS mI args below meth cC s₁ Bd hml0 hP hK
  obtain ⟨rfl, hZ, hh⟩ := hP
  have hx := Bd.exec
  have hby := Bd.bytes
  have hml : cC.maxLocals = 3 := hml0
  have hown : sS.vm.findClass "java/util/HashMap" = some mI.cls := by have z := findClass_of_methodNamed Bd.named; exact z
  have hnm := (name_of_methodNamed Bd.named Bd.method).1
  have X0 : Stand pP lL eE ({ frames := 2, cells := 0, slots := 0, locals := 28 } : Room) sS mI #[(.ref a), (.int (16 : Int32)), (.float (1061158912 : UInt32))] below meth cC s₁ [] 0 0 := Stand.of_body Bd
  have e0 : s₁.heap = h0 := by rw [← hh, Bd.state]; rfl
  have N0 := Fr.nil n0
  obtain ⟨G, hG, hst, hend⟩ := own_abs pP eE below sS (own_Qhm Z a h0 n0) ({ frames := 2, cells := 0, slots := 0, locals := 28 } : Room).cells ({ frames := 2, cells := 0, slots := 0, locals := 28 } : Room).slots
  refine hG (S := s₁.setTop (entryFrame mI #[(.ref a), (.int (16 : Int32)), (.float (1061158912 : UInt32))] 3)) (hst (fun t_ kt_ => castTop (ef_hm mI a) kt_) ?_)
  have Z1 := Nat.le_refl h0.size
  have K0 := Keep.refl h0 [a]
  show G (s₁.setTop (mkF mI 0 #[.val (.ref a), .val (.int (16 : Int32)), .val (.float (1061158912 : UInt32))] []))
  refine o_aloadN hst X0.here hx (hb hby dhm_0) (pc' := 1) rfl rfl rfl ?_
  obtain ⟨_, _, ⟨T_1, L_1, k_1, n_1⟩, -, X_1, ⟨Lc_1, hQ_1, l_1, y_1, z_1⟩, st_1⟩ := X0.specialBack hx (y := (⟨"java/util/AbstractMap", "<init>", "()V"⟩ : MethodName)) rfl hown (mvT hZ (own_w84 hw)) (mvT hZ (own_w85 hw)) (mvT hZ (own_w89 hw)) (by decide) (backOf (W := 0) (rmAM lL Z a0 hw [] a  h0 n0 Z0) hZ (own_w89 hw) (own_w88 hw) (by decide) (by decide)) (g := (mkF mI 1 #[.val (.ref a), .val (.int (16 : Int32)), .val (.float (1061158912 : UInt32))] [(.ref a)])) rfl (by rw [hml]; rfl) (Steps.refl _) (a := a) (argsL := []) (rest := []) (lenOf pd_0 rfl) rfl (by show 2 * 0 + _ ≤ _; exact Nat.le_of_eq rfl) (hb hby dhm_1) (fun _ _ => ⟨rfl, e0, (by decide : 0 + 0 ≤ _), (by decide : 0 + 0 ≤ _)⟩)
  dsimp only [Pt.U, Pt.locs, Pt.cells, Pt.slots] at X_1 l_1 y_1 z_1 st_1 hQ_1
  subst l_1 y_1 z_1
  obtain ⟨rfl, N_1q, eh_1⟩ := hQ_1
  have N_1 := Fr.app N0 N_1q
  refine hst (fun _ kt => st_1.trans kt) ?_
  show G (T_1.setTop (mkF mI 4 #[.val (.ref a), .val (.int (16 : Int32)), .val (.float (1061158912 : UInt32))] []))
  refine o_iloadN hst X_1.here hx (hb hby dhm_4) (pc' := 5) rfl rfl ?_
  have hc5 : ¬ ((16 : Int32) < (0 : Int32)) := by decide
  refine hst (fun _ kt => XS.ifYes X_1.here hx rfl (pc0 := 5) (pc' := 35) rfl (hb hby dhm_5) rfl ((if0 _ _).trans (flt hc5).2.1) (by decide) (by decide) kt) ?_
  show G (T_1.setTop (mkF mI 35 #[.val (.ref a), .val (.int (16 : Int32)), .val (.float (1061158912 : UInt32))] []))
  refine o_iloadN hst X_1.here hx (hb hby dhm_35) (pc' := 36) rfl rfl ?_
  refine hst (X_1.ldcInt hx hown (mvT hZ (own_w91 hw)) (g := (mkF mI 36 #[.val (.ref a), .val (.int (16 : Int32)), .val (.float (1061158912 : UInt32))] [(.int (16 : Int32))])) rfl (hb hby dhm_36)) ?_
  show G (T_1.setTop (mkF mI 38 #[.val (.ref a), .val (.int (16 : Int32)), .val (.float (1061158912 : UInt32))] [(.int (1073741824 : Int32)), (.int (16 : Int32))]))
  have hc38 : ¬ ((1073741824 : Int32) < (16 : Int32)) := by decide
  refine hst (fun _ kt => XS.icmpYes X_1.here hx rfl (pc0 := 38) (pc' := 44) rfl (hb hby dhm_38) rfl (flt hc38).2.2.2 (by decide) (by decide) kt) ?_
  show G (T_1.setTop (mkF mI 44 #[.val (.ref a), .val (.int (16 : Int32)), .val (.float (1061158912 : UInt32))] []))
  refine o_floadN hst X_1.here hx (hb hby dhm_44) (pc' := 45) rfl rfl ?_
  refine hst (fun _ kt => XS.fconst0 X_1.here hx rfl (hb hby dhm_45) (v := (0 : UInt32)) (by decide +kernel) kt) ?_
  show G (T_1.setTop (mkF mI 46 #[.val (.ref a), .val (.int (16 : Int32)), .val (.float (1061158912 : UInt32))] [(.float (0 : UInt32)), (.float (1061158912 : UInt32))]))
  refine hst (fun _ kt => XS.fcmpS X_1.here hx rfl (hb hby dhm_46) rfl (v := (1 : Int32)) (by decide +kernel) kt) ?_
  show G (T_1.setTop (mkF mI 47 #[.val (.ref a), .val (.int (16 : Int32)), .val (.float (1061158912 : UInt32))] [(.int (1 : Int32))]))
  have hc47 : (0 : Int32) < (1 : Int32) := by decide
  refine hst (fun _ kt => XS.ifNo X_1.here hx rfl (hb hby dhm_47) rfl ((if0 _ _).trans (tlt hc47).2.2.2) kt) ?_
  show G (T_1.setTop (mkF mI 50 #[.val (.ref a), .val (.int (16 : Int32)), .val (.float (1061158912 : UInt32))] []))
  refine o_floadN hst X_1.here hx (hb hby dhm_50) (pc' := 51) rfl rfl ?_
  obtain ⟨_, _, ⟨T_2, L_2, k_2, n_2⟩, -, X_2, ⟨Lc_2, hQ_2, l_2, y_2, z_2⟩, st_2⟩ := Jvm.LawKit.callS X_1 hx (y := (⟨"java/lang/Float", "isNaN", "(F)Z"⟩ : MethodName)) hown (mvT hZ (own_w92 hw)) (mvT hZ (own_w93 hw)) (mvT hZ (own_w94 hw)) (mvT hZ (own_w95 hw)) (by decide) (backOf (W := 0) (rmfn lL Z a0 hw []   h0 n0 Z0) hZ (own_w95 hw) (own_w94 hw) (by decide) (by decide)) (g := (mkF mI 51 #[.val (.ref a), .val (.int (16 : Int32)), .val (.float (1061158912 : UInt32))] [(.float (1061158912 : UInt32))])) rfl (by rw [hml]; rfl) (argsL := [(.float (1061158912 : UInt32))]) (rest := []) (lenOf pd_2 rfl) rfl (by show 2 * 0 + _ ≤ _; exact Nat.le_of_eq rfl) (hb hby dhm_51) (fun _ _ => ⟨rfl, eh_1, (by decide : 0 + 0 ≤ _), (by decide : 0 + 0 ≤ _)⟩)
  dsimp only [Pt.U, Pt.locs, Pt.cells, Pt.slots] at X_2 l_2 y_2 z_2 st_2 hQ_2
  subst l_2 y_2 z_2
  obtain ⟨rfl, N_2q, eh_2⟩ := hQ_2
  have N_2 := Fr.app N_1 N_2q
  refine hst (fun _ kt => st_2 _ kt) ?_
  show G (T_2.setTop (mkF mI 54 #[.val (.ref a), .val (.int (16 : Int32)), .val (.float (1061158912 : UInt32))] [(.int (0 : Int32))]))
  have hc54 : (0 : Int32) = (0 : Int32) := rfl
  refine hst (fun _ kt => XS.ifYes X_2.here hx rfl (pc0 := 54) (pc' := 84) rfl (hb hby dhm_54) rfl ((if0 _ _).trans (teq hc54).1) (by decide) (by decide) kt) ?_
  show G (T_2.setTop (mkF mI 84 #[.val (.ref a), .val (.int (16 : Int32)), .val (.float (1061158912 : UInt32))] []))
  refine o_aloadN hst X_2.here hx (hb hby dhm_84) (pc' := 85) rfl rfl rfl ?_
  refine o_floadN hst X_2.here hx (hb hby dhm_85) (pc' := 86) rfl rfl ?_
  obtain ⟨T_3, h_3, X_3, e_3, W_3, st_3⟩ := putF X_2 hx hZ hown (host := "") (Or.inl (own_w96 hw)) Via.refl eh_2 F_loadFactor_a E_a (Or.inr ⟨(own_w97 hw), rfl, hnm⟩) (own_w72 hw) (ty := .float) (by decide) rfl rfl (g := (mkF mI 86 #[.val (.ref a), .val (.int (16 : Int32)), .val (.float (1061158912 : UInt32))] [(.float (1061158912 : UInt32)), (.ref a)])) rfl rfl (hb hby dhm_86)
  have Z0 := Nat.le_trans Z0 (Keep.of_wr W_3).1
  have Z1 := Nat.le_trans Z1 (Keep.of_wr W_3).1
  have K0 := K0.wr W_3 (Or.inl (List.mem_of_getElem? (i := 0) rfl))
  have F_loadFactor_a := F_loadFactor_a.same W_3
  have F_threshold_a := F_threshold_a.other W_3 (Or.inr (slot_ne (Or.inl (own_w107 hw)) (Or.inr (own_w97 hw)) (by decide) (t := .int) (t' := .float) (by decide) (by decide)))
  have F_putMode_a := F_putMode_a.other W_3 (Or.inr (slot_ne (Or.inl (own_w109 hw)) (Or.inr (own_w97 hw)) (by decide) (t := .int) (t' := .float) (by decide) (by decide)))
  have F_accessOrder_a := F_accessOrder_a.other W_3 (Or.inr (slot_ne (Or.inr (own_w111 hw)) (Or.inr (own_w97 hw)) (by decide) (t := .boolean) (t' := .float) (by decide) (by decide)))
  have F_size_a := F_size_a.other W_3 (Or.inr (slot_ne (Or.inl (own_w215 hw)) (Or.inr (own_w97 hw)) (by decide) (t := .int) (t' := .float) (by decide) (by decide)))
  have F_keySet_a := F_keySet_a.other W_3 (Or.inr (slot_ne (Or.inl (own_w237 hw)) (Or.inr (own_w97 hw)) (by decide) (t := (.object "java/util/Set")) (t' := .float) (by decide) (by decide)))
  have F_head_a := F_head_a.other W_3 (Or.inr (slot_ne (Or.inl (own_w278 hw)) (Or.inr (own_w97 hw)) (by decide) (t := (.object "java/util/LinkedHashMap$Entry")) (t' := .float) (by decide) (by decide)))
  have F_modCount_a := F_modCount_a.other W_3 (Or.inr (slot_ne (Or.inl (own_w283 hw)) (Or.inr (own_w97 hw)) (by decide) (t := .int) (t' := .float) (by decide) (by decide)))
  have E_a := E_a.wr W_3
  have N_3 := Fr.snoc X_3 N_2 le_n0_a
  refine hst st_3 ?_
  show G (T_3.setTop (mkF mI 89 #[.val (.ref a), .val (.int (16 : Int32)), .val (.float (1061158912 : UInt32))] []))
  refine o_aloadN hst X_3.here hx (hb hby dhm_89) (pc' := 90) rfl rfl rfl ?_
  refine o_iloadN hst X_3.here hx (hb hby dhm_90) (pc' := 91) rfl rfl ?_
  obtain ⟨_, _, ⟨T_4, L_4, k_4, n_4⟩, -, X_4, ⟨Lc_4, hQ_4, l_4, y_4, z_4⟩, st_4⟩ := Jvm.LawKit.callS X_3 hx (y := (⟨"java/util/HashMap", "tableSizeFor", "(I)I"⟩ : MethodName)) hown (mvT hZ (own_w98 hw)) (mvT hZ (own_w99 hw)) (mvT hZ (own_w82 hw)) (mvT hZ (own_w100 hw)) (by decide) (backOf (W := 1) (rmts lL Z a0 hw []   h_3 n0 Z0) hZ (own_w100 hw) (own_w82 hw) (by decide) (by decide)) (g := (mkF mI 91 #[.val (.ref a), .val (.int (16 : Int32)), .val (.float (1061158912 : UInt32))] [(.int (16 : Int32)), (.ref a)])) rfl (by rw [hml]; rfl) (argsL := [(.int (16 : Int32))]) (rest := [(.ref a)]) (lenOf pd_1 rfl) rfl (by show 2 * 0 + _ ≤ _; exact Nat.le_of_eq rfl) (hb hby dhm_91) (fun _ _ => ⟨rfl, e_3, (by decide : 0 + 0 ≤ _), (by decide : 0 + 0 ≤ _)⟩)
  dsimp only [Pt.U, Pt.locs, Pt.cells, Pt.slots] at X_4 l_4 y_4 z_4 st_4 hQ_4
  subst l_4 y_4 z_4
  obtain ⟨rfl, N_4q, eh_4⟩ := hQ_4
  have N_4 := Fr.app N_3 N_4q
  refine hst (fun _ kt => st_4 _ kt) ?_
  show G (T_4.setTop (mkF mI 94 #[.val (.ref a), .val (.int (16 : Int32)), .val (.float (1061158912 : UInt32))] [(.int (16 : Int32)), (.ref a)]))
  obtain ⟨T_5, h_5, X_5, e_5, W_5, st_5⟩ := putF X_4 hx hZ hown (host := "") (Or.inl (own_w106 hw)) Via.refl eh_4 F_threshold_a E_a (Or.inl (own_w107 hw)) (own_w72 hw) (ty := .int) (by decide) rfl rfl (g := (mkF mI 94 #[.val (.ref a), .val (.int (16 : Int32)), .val (.float (1061158912 : UInt32))] [(.int (16 : Int32)), (.ref a)])) rfl rfl (hb hby dhm_94)
  have Z0 := Nat.le_trans Z0 (Keep.of_wr W_5).1
  have Z1 := Nat.le_trans Z1 (Keep.of_wr W_5).1
  have K0 := K0.wr W_5 (Or.inl (List.mem_of_getElem? (i := 0) rfl))
  have F_threshold_a := F_threshold_a.same W_5
  have F_putMode_a := F_putMode_a.other W_5 (Or.inr (slot_ne (Or.inl (own_w109 hw)) (Or.inl (own_w107 hw)) (by decide) (t := .int) (t' := .int) (by decide) (by decide)))
  have F_accessOrder_a := F_accessOrder_a.other W_5 (Or.inr (slot_ne (Or.inr (own_w111 hw)) (Or.inl (own_w107 hw)) (by decide) (t := .boolean) (t' := .int) (by decide) (by decide)))
  have F_size_a := F_size_a.other W_5 (Or.inr (slot_ne (Or.inl (own_w215 hw)) (Or.inl (own_w107 hw)) (by decide) (t := .int) (t' := .int) (by decide) (by decide)))
  have F_keySet_a := F_keySet_a.other W_5 (Or.inr (slot_ne (Or.inl (own_w237 hw)) (Or.inl (own_w107 hw)) (by decide) (t := (.object "java/util/Set")) (t' := .int) (by decide) (by decide)))
  have F_head_a := F_head_a.other W_5 (Or.inr (slot_ne (Or.inl (own_w278 hw)) (Or.inl (own_w107 hw)) (by decide) (t := (.object "java/util/LinkedHashMap$Entry")) (t' := .int) (by decide) (by decide)))
  have F_modCount_a := F_modCount_a.other W_5 (Or.inr (slot_ne (Or.inl (own_w283 hw)) (Or.inl (own_w107 hw)) (by decide) (t := .int) (t' := .int) (by decide) (by decide)))
  have E_a := E_a.wr W_5
  have N_5 := Fr.snoc X_5 N_4 le_n0_a
  refine hst st_5 ?_
  show G (T_5.setTop (mkF mI 97 #[.val (.ref a), .val (.int (16 : Int32)), .val (.float (1061158912 : UInt32))] []))
  exact hend (own_goVoid X_5 hx Bd.returns (hb hby dhm_97) Bd.notSynchronized (by rw [e_5]; exact ⟨rfl, N_5, K0, E_a, F_putMode_a, F_accessOrder_a, F_size_a, F_keySet_a, F_head_a, F_modCount_a⟩) (by decide) (by decide))
def own_Qlm (Z : State) (a : Addr) (h0 : Heap) (n0 : Nat) (v : Option Value) (h : Heap) (L : List Loc) : Prop := v = none ∧ Fr n0 L ∧ Keep h0 h [a] ∧ Exa Z h a "java/util/LinkedHashMap" ∧ Fld Z h a "java/util/HashMap" "size" "I" (.int (0 : Int32)) ∧ Fld Z h a "java/util/AbstractMap" "keySet" "Ljava/util/Set;" .null ∧ Fld Z h a "java/util/LinkedHashMap" "head" "Ljava/util/LinkedHashMap$Entry;" .null ∧ Fld Z h a "java/util/HashMap" "modCount" "I" (.int (0 : Int32))
theorem dlm_0 : decode jdk_94_method_14_code 0 = .ok (.aload_n 0, 1) := by decide +kernel
theorem dlm_1 : decode jdk_94_method_14_code 1 = .ok (.iload_n 1, 1) := by decide +kernel
theorem dlm_2 : decode jdk_94_method_14_code 2 = .ok (.fload_n 2, 1) := by decide +kernel
theorem dlm_3 : decode jdk_94_method_14_code 3 = .ok (.invokespecial 81, 3) := by decide +kernel
theorem dlm_6 : decode jdk_94_method_14_code 6 = .ok (.aload_n 0, 1) := by decide +kernel
theorem dlm_7 : decode jdk_94_method_14_code 7 = .ok (.iconst 0, 1) := by decide +kernel
theorem dlm_8 : decode jdk_94_method_14_code 8 = .ok (.putfield 1, 3) := by decide +kernel
theorem dlm_11 : decode jdk_94_method_14_code 11 = .ok (.aload_n 0, 1) := by decide +kernel
theorem dlm_12 : decode jdk_94_method_14_code 12 = .ok (.iconst 0, 1) := by decide +kernel
theorem dlm_13 : decode jdk_94_method_14_code 13 = .ok (.putfield 64, 3) := by decide +kernel
theorem dlm_16 : decode jdk_94_method_14_code 16 = .ok (.return_, 1) := by decide +kernel
theorem ef_lm (mI : MethodId) (a : Addr) : entryFrame mI #[(.ref a), (.int (16 : Int32)), (.float (1061158912 : UInt32))] 3 = mkF mI 0 #[.val (.ref a), .val (.int (16 : Int32)), .val (.float (1061158912 : UInt32))] [] := by first | (simp [entryFrame, mkF, argsToLocals, Value.category]; done) | rfl
theorem pn_lm : plainName "java/util/LinkedHashMap" = true := by first | decide +kernel | (simp [plainName, overriddenIn]; done)
set_option maxRecDepth 65536 in
set_option maxHeartbeats 40000000 in
theorem rmlm (lL : Launch) (Z : State) (a0 : Array Value) (hw : ∀ d ∈ tables_1, d.before a0 Z = true) (ws : List Jvm.Cond) (a : Addr) (h0 : Heap) (n0 : Nat) (Z0 : n0 ≤ h0.size) (F_loadFactor_a : Fld Z h0 a "java/util/HashMap" "loadFactor" "F" (defaultValue .float)) (F_threshold_a : Fld Z h0 a "java/util/HashMap" "threshold" "I" (.int (0 : Int32))) (F_putMode_a : Fld Z h0 a "java/util/LinkedHashMap" "putMode" "I" (.int (0 : Int32))) (F_accessOrder_a : Fld Z h0 a "java/util/LinkedHashMap" "accessOrder" "Z" (.int (0 : Int32))) (F_size_a : Fld Z h0 a "java/util/HashMap" "size" "I" (.int (0 : Int32))) (F_keySet_a : Fld Z h0 a "java/util/AbstractMap" "keySet" "Ljava/util/Set;" .null) (F_head_a : Fld Z h0 a "java/util/LinkedHashMap" "head" "Ljava/util/LinkedHashMap$Entry;" .null) (F_modCount_a : Fld Z h0 a "java/util/HashMap" "modCount" "I" (.int (0 : Int32))) (E_a : Exa Z h0 a "java/util/LinkedHashMap") (le_n0_a : n0 ≤ a) :
    MetFree lL (⟨"java/util/LinkedHashMap", "<init>", "(IF)V"⟩ : MethodName) (head1 (Jvm.Cond.code (⟨"java/util/LinkedHashMap", "<init>", "(IF)V"⟩ : MethodName) jdk_94_method_14_code 3 none :: ws) ({ frames := 3, cells := 0, slots := 0, locals := 42 } : Room)) (fun a_ U_ => a_ = #[(.ref a), (.int (16 : Int32)), (.float (1061158912 : UInt32))] ∧ Z.Warmed39 U_.vm ∧ U_.heap = h0) (fun _ _ _ _ _ => True) (fun _ U_ o_ W_ => ∃ v_ L_, o_ = .returned v_ ∧ own_Qlm Z a h0 n0 v_ W_.heap L_ ∧ FrameEnd U_ o_ W_ L_ ({ frames := 3, cells := 0, slots := 0, locals := 42 } : Room).cells ({ frames := 3, cells := 0, slots := 0, locals := 42 } : Room).slots) := by
  refine MetFree.of_bodySF (plainFor_of_name pn_lm) hisR ?_
  intro pP eE sS mI args below meth cC s₁ Bd hml0 hP hK
  obtain ⟨rfl, hZ, hh⟩ := hP
  have hx := Bd.exec
  have hby := Bd.bytes
  have hml : cC.maxLocals = 3 := hml0
  have hown : sS.vm.findClass "java/util/LinkedHashMap" = some mI.cls := by have z := findClass_of_methodNamed Bd.named; exact z
  have hnm := (name_of_methodNamed Bd.named Bd.method).1
  have X0 : Stand pP lL eE ({ frames := 3, cells := 0, slots := 0, locals := 42 } : Room) sS mI #[(.ref a), (.int (16 : Int32)), (.float (1061158912 : UInt32))] below meth cC s₁ [] 0 0 := Stand.of_body Bd
  have e0 : s₁.heap = h0 := by rw [← hh, Bd.state]; rfl
  have N0 := Fr.nil n0
  obtain ⟨G, hG, hst, hend⟩ := own_abs pP eE below sS (own_Qlm Z a h0 n0) ({ frames := 3, cells := 0, slots := 0, locals := 42 } : Room).cells ({ frames := 3, cells := 0, slots := 0, locals := 42 } : Room).slots
  refine hG (S := s₁.setTop (entryFrame mI #[(.ref a), (.int (16 : Int32)), (.float (1061158912 : UInt32))] 3)) (hst (fun t_ kt_ => castTop (ef_lm mI a) kt_) ?_)
  have Z1 := Nat.le_refl h0.size
  have K0 := Keep.refl h0 [a]
  show G (s₁.setTop (mkF mI 0 #[.val (.ref a), .val (.int (16 : Int32)), .val (.float (1061158912 : UInt32))] []))
  refine o_aloadN hst X0.here hx (hb hby dlm_0) (pc' := 1) rfl rfl rfl ?_
  refine o_iloadN hst X0.here hx (hb hby dlm_1) (pc' := 2) rfl rfl ?_
  refine o_floadN hst X0.here hx (hb hby dlm_2) (pc' := 3) rfl rfl ?_
  obtain ⟨_, _, ⟨T_1, L_1, k_1, n_1⟩, -, X_1, ⟨Lc_1, hQ_1, l_1, y_1, z_1⟩, st_1⟩ := X0.specialBack hx (y := (⟨"java/util/HashMap", "<init>", "(IF)V"⟩ : MethodName)) rfl hown (mvT hZ (own_w78 hw)) (mvT hZ (own_w79 hw)) (mvT hZ (own_w83 hw)) (by decide) (backOf (W := 0) (rmhm lL Z a0 hw [] a  h0 n0 Z0 F_loadFactor_a F_threshold_a F_putMode_a F_accessOrder_a F_size_a F_keySet_a F_head_a F_modCount_a E_a le_n0_a) hZ (own_w83 hw) (own_w82 hw) (by decide) (by decide)) (g := (mkF mI 3 #[.val (.ref a), .val (.int (16 : Int32)), .val (.float (1061158912 : UInt32))] [(.float (1061158912 : UInt32)), (.int (16 : Int32)), (.ref a)])) rfl (by rw [hml]; rfl) (Steps.refl _) (a := a) (argsL := [(.int (16 : Int32)), (.float (1061158912 : UInt32))]) (rest := []) (lenOf pd_3 rfl) rfl (by show 2 * 0 + _ ≤ _; exact Nat.le_of_eq rfl) (hb hby dlm_3) (fun _ _ => ⟨rfl, e0, (by decide : 0 + 0 ≤ _), (by decide : 0 + 0 ≤ _)⟩)
  dsimp only [Pt.U, Pt.locs, Pt.cells, Pt.slots] at X_1 l_1 y_1 z_1 st_1 hQ_1
  subst l_1 y_1 z_1
  obtain ⟨rfl, N_1q, K_1, Ex_1, GF_putMode_a, GF_accessOrder_a, GF_size_a, GF_keySet_a, GF_head_a, GF_modCount_a⟩ := hQ_1
  have Z0 := Nat.le_trans Z0 K_1.1
  have Z1 := Nat.le_trans Z1 K_1.1
  have K0 := K0.trans K_1 (allS (Or.inl (List.mem_of_getElem? (i := 0) rfl)) all0)
  have E_a := E_a.keep K_1
  have F_putMode_a := GF_putMode_a
  have F_accessOrder_a := GF_accessOrder_a
  have F_size_a := GF_size_a
  have F_keySet_a := GF_keySet_a
  have F_head_a := GF_head_a
  have F_modCount_a := GF_modCount_a
  have N_1 := Fr.app N0 N_1q
  refine hst (fun _ kt => st_1.trans kt) ?_
  show G (T_1.setTop (mkF mI 6 #[.val (.ref a), .val (.int (16 : Int32)), .val (.float (1061158912 : UInt32))] []))
  refine o_aloadN hst X_1.here hx (hb hby dlm_6) (pc' := 7) rfl rfl rfl ?_
  refine o_iconst hst X_1.here hx (hb hby dlm_7) (pc' := 8) rfl (z := (0 : Int32)) rfl ?_
  obtain ⟨T_2, h_2, X_2, e_2, W_2, st_2⟩ := putF X_1 hx hZ hown (host := "") (Or.inl (own_w108 hw)) Via.refl rfl F_putMode_a E_a (Or.inl (own_w109 hw)) (own_w72 hw) (ty := .int) (by decide) rfl rfl (g := (mkF mI 8 #[.val (.ref a), .val (.int (16 : Int32)), .val (.float (1061158912 : UInt32))] [(.int (0 : Int32)), (.ref a)])) rfl rfl (hb hby dlm_8)
  have Z0 := Nat.le_trans Z0 (Keep.of_wr W_2).1
  have Z1 := Nat.le_trans Z1 (Keep.of_wr W_2).1
  have K0 := K0.wr W_2 (Or.inl (List.mem_of_getElem? (i := 0) rfl))
  have E_a := E_a.wr W_2
  have F_putMode_a := F_putMode_a.same W_2
  have F_accessOrder_a := F_accessOrder_a.other W_2 (Or.inr (slot_ne (Or.inr (own_w111 hw)) (Or.inl (own_w109 hw)) (by decide) (t := .boolean) (t' := .int) (by decide) (by decide)))
  have F_size_a := F_size_a.other W_2 (Or.inr (slot_ne (Or.inl (own_w215 hw)) (Or.inl (own_w109 hw)) (by decide) (t := .int) (t' := .int) (by decide) (by decide)))
  have F_keySet_a := F_keySet_a.other W_2 (Or.inr (slot_ne (Or.inl (own_w237 hw)) (Or.inl (own_w109 hw)) (by decide) (t := (.object "java/util/Set")) (t' := .int) (by decide) (by decide)))
  have F_head_a := F_head_a.other W_2 (Or.inr (slot_ne (Or.inl (own_w278 hw)) (Or.inl (own_w109 hw)) (by decide) (t := (.object "java/util/LinkedHashMap$Entry")) (t' := .int) (by decide) (by decide)))
  have F_modCount_a := F_modCount_a.other W_2 (Or.inr (slot_ne (Or.inl (own_w283 hw)) (Or.inl (own_w109 hw)) (by decide) (t := .int) (t' := .int) (by decide) (by decide)))
  have N_2 := Fr.snoc X_2 N_1 le_n0_a
  refine hst st_2 ?_
  show G (T_2.setTop (mkF mI 11 #[.val (.ref a), .val (.int (16 : Int32)), .val (.float (1061158912 : UInt32))] []))
  refine o_aloadN hst X_2.here hx (hb hby dlm_11) (pc' := 12) rfl rfl rfl ?_
  refine o_iconst hst X_2.here hx (hb hby dlm_12) (pc' := 13) rfl (z := (0 : Int32)) rfl ?_
  obtain ⟨T_3, h_3, X_3, e_3, W_3, st_3⟩ := putFN X_2 hx hZ hown (own_w110 hw) Via.refl e_2 F_accessOrder_a E_a (Or.inr ⟨(own_w111 hw), rfl, hnm⟩) (own_w72 hw) (ty := .boolean) (v' := (.int (0 : Int32))) (by decide) rfl rfl (g := (mkF mI 13 #[.val (.ref a), .val (.int (16 : Int32)), .val (.float (1061158912 : UInt32))] [(.int (0 : Int32)), (.ref a)])) rfl rfl (hb hby dlm_13)
  have Z0 := Nat.le_trans Z0 (Keep.of_wr W_3).1
  have Z1 := Nat.le_trans Z1 (Keep.of_wr W_3).1
  have K0 := K0.wr W_3 (Or.inl (List.mem_of_getElem? (i := 0) rfl))
  have E_a := E_a.wr W_3
  have F_putMode_a := F_putMode_a.other W_3 (Or.inr (slot_ne (Or.inl (own_w109 hw)) (Or.inr (own_w111 hw)) (by decide) (t := .int) (t' := .boolean) (by decide) (by decide)))
  have F_accessOrder_a := F_accessOrder_a.same W_3
  have F_size_a := F_size_a.other W_3 (Or.inr (slot_ne (Or.inl (own_w215 hw)) (Or.inr (own_w111 hw)) (by decide) (t := .int) (t' := .boolean) (by decide) (by decide)))
  have F_keySet_a := F_keySet_a.other W_3 (Or.inr (slot_ne (Or.inl (own_w237 hw)) (Or.inr (own_w111 hw)) (by decide) (t := (.object "java/util/Set")) (t' := .boolean) (by decide) (by decide)))
  have F_head_a := F_head_a.other W_3 (Or.inr (slot_ne (Or.inl (own_w278 hw)) (Or.inr (own_w111 hw)) (by decide) (t := (.object "java/util/LinkedHashMap$Entry")) (t' := .boolean) (by decide) (by decide)))
  have F_modCount_a := F_modCount_a.other W_3 (Or.inr (slot_ne (Or.inl (own_w283 hw)) (Or.inr (own_w111 hw)) (by decide) (t := .int) (t' := .boolean) (by decide) (by decide)))
  have N_3 := Fr.snoc X_3 N_2 le_n0_a
  refine hst st_3 ?_
  show G (T_3.setTop (mkF mI 16 #[.val (.ref a), .val (.int (16 : Int32)), .val (.float (1061158912 : UInt32))] []))
  exact hend (own_goVoid X_3 hx Bd.returns (hb hby dlm_16) Bd.notSynchronized (by rw [e_3]; exact ⟨rfl, N_3, K0, E_a, F_size_a, F_keySet_a, F_head_a, F_modCount_a⟩) (by decide) (by decide))
def own_Qh0 (Z : State) (a : Addr) (h0 : Heap) (n0 : Nat) (v : Option Value) (h : Heap) (L : List Loc) : Prop := v = none ∧ Fr n0 L ∧ Keep h0 h [a] ∧ Fld Z h a "java/util/LinkedHashMap" "putMode" "I" (.int (0 : Int32)) ∧ Fld Z h a "java/util/LinkedHashMap" "accessOrder" "Z" (.int (0 : Int32))
def own_QK (ws : List Addr) (h0 : Heap) (n0 : Nat) (v : Option Value) (h : Heap) (L : List Loc) : Prop := v = none ∧ Fr n0 L ∧ Keep h0 h ws
theorem dh0_0 : decode jdk_69_method_7_code 0 = .ok (.aload_n 0, 1) := by decide +kernel
theorem dh0_1 : decode jdk_69_method_7_code 1 = .ok (.invokespecial 43, 3) := by decide +kernel
theorem dh0_4 : decode jdk_69_method_7_code 4 = .ok (.aload_n 0, 1) := by decide +kernel
theorem dh0_5 : decode jdk_69_method_7_code 5 = .ok (.ldc 92, 2) := by decide +kernel
theorem dh0_7 : decode jdk_69_method_7_code 7 = .ok (.putfield 81, 3) := by decide +kernel
theorem dh0_10 : decode jdk_69_method_7_code 10 = .ok (.return_, 1) := by decide +kernel
theorem ef_h0 (mI : MethodId) (a : Addr) : entryFrame mI #[(.ref a)] 1 = mkF mI 0 #[.val (.ref a)] [] := by first | (simp [entryFrame, mkF, argsToLocals, Value.category]; done) | rfl
theorem pn_h0 : plainName "java/util/HashMap" = true := by first | decide +kernel | (simp [plainName, overriddenIn]; done)
set_option maxRecDepth 65536 in
set_option maxHeartbeats 40000000 in
theorem rmh0 (lL : Launch) (Z : State) (a0 : Array Value) (hw : ∀ d ∈ tables_1, d.before a0 Z = true) (ws : List Jvm.Cond) (a : Addr) (h0 : Heap) (n0 : Nat) (Z0 : n0 ≤ h0.size) (F_loadFactor_a : Fld Z h0 a "java/util/HashMap" "loadFactor" "F" (defaultValue .float)) (F_putMode_a : Fld Z h0 a "java/util/LinkedHashMap" "putMode" "I" (.int (0 : Int32))) (F_accessOrder_a : Fld Z h0 a "java/util/LinkedHashMap" "accessOrder" "Z" (.int (0 : Int32))) (E_a : Exa Z h0 a "java/util/LinkedHashMap") (le_n0_a : n0 ≤ a) :
    MetFree lL (⟨"java/util/HashMap", "<init>", "()V"⟩ : MethodName) (head1 (Jvm.Cond.code (⟨"java/util/HashMap", "<init>", "()V"⟩ : MethodName) jdk_69_method_7_code 1 none :: ws) ({ frames := 2, cells := 0, slots := 0, locals := 24 } : Room)) (fun a_ U_ => a_ = #[(.ref a)] ∧ Z.Warmed39 U_.vm ∧ U_.heap = h0) (fun _ _ _ _ _ => True) (fun _ U_ o_ W_ => ∃ v_ L_, o_ = .returned v_ ∧ own_Qh0 Z a h0 n0 v_ W_.heap L_ ∧ FrameEnd U_ o_ W_ L_ ({ frames := 2, cells := 0, slots := 0, locals := 24 } : Room).cells ({ frames := 2, cells := 0, slots := 0, locals := 24 } : Room).slots) := by
  refine MetFree.of_bodySF (plainFor_of_name pn_h0) hisR ?_
  intro pP eE sS mI args below meth cC s₁ Bd hml0 hP hK
  obtain ⟨rfl, hZ, hh⟩ := hP
  have hx := Bd.exec
  have hby := Bd.bytes
  have hml : cC.maxLocals = 1 := hml0
  have hown : sS.vm.findClass "java/util/HashMap" = some mI.cls := by have z := findClass_of_methodNamed Bd.named; exact z
  have hnm := (name_of_methodNamed Bd.named Bd.method).1
  have X0 : Stand pP lL eE ({ frames := 2, cells := 0, slots := 0, locals := 24 } : Room) sS mI #[(.ref a)] below meth cC s₁ [] 0 0 := Stand.of_body Bd
  have e0 : s₁.heap = h0 := by rw [← hh, Bd.state]; rfl
  have N0 := Fr.nil n0
  obtain ⟨G, hG, hst, hend⟩ := own_abs pP eE below sS (own_Qh0 Z a h0 n0) ({ frames := 2, cells := 0, slots := 0, locals := 24 } : Room).cells ({ frames := 2, cells := 0, slots := 0, locals := 24 } : Room).slots
  refine hG (S := s₁.setTop (entryFrame mI #[(.ref a)] 1)) (hst (fun t_ kt_ => castTop (ef_h0 mI a) kt_) ?_)
  have Z1 := Nat.le_refl h0.size
  have K0 := Keep.refl h0 [a]
  show G (s₁.setTop (mkF mI 0 #[.val (.ref a)] []))
  refine o_aloadN hst X0.here hx (hb hby dh0_0) (pc' := 1) rfl rfl rfl ?_
  obtain ⟨_, _, ⟨T_1, L_1, k_1, n_1⟩, -, X_1, ⟨Lc_1, hQ_1, l_1, y_1, z_1⟩, st_1⟩ := X0.specialBack hx (y := (⟨"java/util/AbstractMap", "<init>", "()V"⟩ : MethodName)) rfl hown (mvT hZ (own_w84 hw)) (mvT hZ (own_w85 hw)) (mvT hZ (own_w89 hw)) (by decide) (backOf (W := 0) (rmAM lL Z a0 hw [] a  h0 n0 Z0) hZ (own_w89 hw) (own_w88 hw) (by decide) (by decide)) (g := (mkF mI 1 #[.val (.ref a)] [(.ref a)])) rfl (by rw [hml]; rfl) (Steps.refl _) (a := a) (argsL := []) (rest := []) (lenOf pd_0 rfl) rfl (by show 2 * 0 + _ ≤ _; exact Nat.le_of_eq rfl) (hb hby dh0_1) (fun _ _ => ⟨rfl, e0, (by decide : 0 + 0 ≤ _), (by decide : 0 + 0 ≤ _)⟩)
  dsimp only [Pt.U, Pt.locs, Pt.cells, Pt.slots] at X_1 l_1 y_1 z_1 st_1 hQ_1
  subst l_1 y_1 z_1
  obtain ⟨rfl, N_1q, eh_1⟩ := hQ_1
  have N_1 := Fr.app N0 N_1q
  refine hst (fun _ kt => st_1.trans kt) ?_
  show G (T_1.setTop (mkF mI 4 #[.val (.ref a)] []))
  refine o_aloadN hst X_1.here hx (hb hby dh0_4) (pc' := 5) rfl rfl rfl ?_
  refine hst (X_1.ldcFloatC hx hown (mvT hZ (own_w149 hw)) (g := (mkF mI 5 #[.val (.ref a)] [(.ref a)])) rfl (hb hby dh0_5)) ?_
  show G (T_1.setTop (mkF mI 7 #[.val (.ref a)] [(.float (1061158912 : UInt32)), (.ref a)]))
  obtain ⟨T_2, h_2, X_2, e_2, W_2, st_2⟩ := putF X_1 hx hZ hown (host := "") (Or.inl (own_w96 hw)) Via.refl eh_1 F_loadFactor_a E_a (Or.inr ⟨(own_w97 hw), rfl, hnm⟩) (own_w72 hw) (ty := .float) (by decide) rfl rfl (g := (mkF mI 7 #[.val (.ref a)] [(.float (1061158912 : UInt32)), (.ref a)])) rfl rfl (hb hby dh0_7)
  have Z0 := Nat.le_trans Z0 (Keep.of_wr W_2).1
  have Z1 := Nat.le_trans Z1 (Keep.of_wr W_2).1
  have K0 := K0.wr W_2 (Or.inl (List.mem_of_getElem? (i := 0) rfl))
  have F_loadFactor_a := F_loadFactor_a.same W_2
  have F_putMode_a := F_putMode_a.other W_2 (Or.inr (slot_ne (Or.inl (own_w109 hw)) (Or.inr (own_w97 hw)) (by decide) (t := .int) (t' := .float) (by decide) (by decide)))
  have F_accessOrder_a := F_accessOrder_a.other W_2 (Or.inr (slot_ne (Or.inr (own_w111 hw)) (Or.inr (own_w97 hw)) (by decide) (t := .boolean) (t' := .float) (by decide) (by decide)))
  have E_a := E_a.wr W_2
  have N_2 := Fr.snoc X_2 N_1 le_n0_a
  refine hst st_2 ?_
  show G (T_2.setTop (mkF mI 10 #[.val (.ref a)] []))
  exact hend (own_goVoid X_2 hx Bd.returns (hb hby dh0_10) Bd.notSynchronized (by rw [e_2]; exact ⟨rfl, N_2, K0, F_putMode_a, F_accessOrder_a⟩) (by decide) (by decide))
theorem dl0_0 : decode jdk_94_method_16_code 0 = .ok (.aload_n 0, 1) := by decide +kernel
theorem dl0_1 : decode jdk_94_method_16_code 1 = .ok (.invokespecial 87, 3) := by decide +kernel
theorem dl0_4 : decode jdk_94_method_16_code 4 = .ok (.aload_n 0, 1) := by decide +kernel
theorem dl0_5 : decode jdk_94_method_16_code 5 = .ok (.iconst 0, 1) := by decide +kernel
theorem dl0_6 : decode jdk_94_method_16_code 6 = .ok (.putfield 1, 3) := by decide +kernel
theorem dl0_9 : decode jdk_94_method_16_code 9 = .ok (.aload_n 0, 1) := by decide +kernel
theorem dl0_10 : decode jdk_94_method_16_code 10 = .ok (.iconst 0, 1) := by decide +kernel
theorem dl0_11 : decode jdk_94_method_16_code 11 = .ok (.putfield 64, 3) := by decide +kernel
theorem dl0_14 : decode jdk_94_method_16_code 14 = .ok (.return_, 1) := by decide +kernel
theorem ef_l0 (mI : MethodId) (a : Addr) : entryFrame mI #[(.ref a)] 1 = mkF mI 0 #[.val (.ref a)] [] := by first | (simp [entryFrame, mkF, argsToLocals, Value.category]; done) | rfl
theorem pn_l0 : plainName "java/util/LinkedHashMap" = true := by first | decide +kernel | (simp [plainName, overriddenIn]; done)
set_option maxRecDepth 65536 in
set_option maxHeartbeats 40000000 in
theorem rml0 (lL : Launch) (Z : State) (a0 : Array Value) (hw : ∀ d ∈ tables_1, d.before a0 Z = true) (ws : List Jvm.Cond) (a : Addr) (h0 : Heap) (n0 : Nat) (Z0 : n0 ≤ h0.size) (F_loadFactor_a : Fld Z h0 a "java/util/HashMap" "loadFactor" "F" (defaultValue .float)) (F_putMode_a : Fld Z h0 a "java/util/LinkedHashMap" "putMode" "I" (.int (0 : Int32))) (F_accessOrder_a : Fld Z h0 a "java/util/LinkedHashMap" "accessOrder" "Z" (.int (0 : Int32))) (E_a : Exa Z h0 a "java/util/LinkedHashMap") (le_n0_a : n0 ≤ a) :
    MetFree lL (⟨"java/util/LinkedHashMap", "<init>", "()V"⟩ : MethodName) (head1 (Jvm.Cond.code (⟨"java/util/LinkedHashMap", "<init>", "()V"⟩ : MethodName) jdk_94_method_16_code 1 none :: ws) ({ frames := 3, cells := 0, slots := 0, locals := 36 } : Room)) (fun a_ U_ => a_ = #[(.ref a)] ∧ Z.Warmed39 U_.vm ∧ U_.heap = h0) (fun _ _ _ _ _ => True) (fun _ U_ o_ W_ => ∃ v_ L_, o_ = .returned v_ ∧ own_QK [a] h0 n0 v_ W_.heap L_ ∧ FrameEnd U_ o_ W_ L_ ({ frames := 3, cells := 0, slots := 0, locals := 36 } : Room).cells ({ frames := 3, cells := 0, slots := 0, locals := 36 } : Room).slots) := by
  refine MetFree.of_bodySF (plainFor_of_name pn_l0) hisR ?_
  intro pP eE sS mI args below meth cC s₁ Bd hml0 hP hK
  obtain ⟨rfl, hZ, hh⟩ := hP
  have hx := Bd.exec
  have hby := Bd.bytes
  have hml : cC.maxLocals = 1 := hml0
  have hown : sS.vm.findClass "java/util/LinkedHashMap" = some mI.cls := by have z := findClass_of_methodNamed Bd.named; exact z
  have hnm := (name_of_methodNamed Bd.named Bd.method).1
  have X0 : Stand pP lL eE ({ frames := 3, cells := 0, slots := 0, locals := 36 } : Room) sS mI #[(.ref a)] below meth cC s₁ [] 0 0 := Stand.of_body Bd
  have e0 : s₁.heap = h0 := by rw [← hh, Bd.state]; rfl
  have N0 := Fr.nil n0
  obtain ⟨G, hG, hst, hend⟩ := own_abs pP eE below sS (own_QK [a] h0 n0) ({ frames := 3, cells := 0, slots := 0, locals := 36 } : Room).cells ({ frames := 3, cells := 0, slots := 0, locals := 36 } : Room).slots
  refine hG (S := s₁.setTop (entryFrame mI #[(.ref a)] 1)) (hst (fun t_ kt_ => castTop (ef_l0 mI a) kt_) ?_)
  have Z1 := Nat.le_refl h0.size
  have K0 := Keep.refl h0 [a]
  show G (s₁.setTop (mkF mI 0 #[.val (.ref a)] []))
  refine o_aloadN hst X0.here hx (hb hby dl0_0) (pc' := 1) rfl rfl rfl ?_
  obtain ⟨_, _, ⟨T_1, L_1, k_1, n_1⟩, -, X_1, ⟨Lc_1, hQ_1, l_1, y_1, z_1⟩, st_1⟩ := X0.specialBack hx (y := (⟨"java/util/HashMap", "<init>", "()V"⟩ : MethodName)) rfl hown (mvT hZ (own_w145 hw)) (mvT hZ (own_w146 hw)) (mvT hZ (own_w148 hw)) (by decide) (backOf (W := 0) (rmh0 lL Z a0 hw [] a  h0 n0 Z0 F_loadFactor_a F_putMode_a F_accessOrder_a E_a le_n0_a) hZ (own_w148 hw) (own_w82 hw) (by decide) (by decide)) (g := (mkF mI 1 #[.val (.ref a)] [(.ref a)])) rfl (by rw [hml]; rfl) (Steps.refl _) (a := a) (argsL := []) (rest := []) (lenOf pd_0 rfl) rfl (by show 2 * 0 + _ ≤ _; exact Nat.le_of_eq rfl) (hb hby dl0_1) (fun _ _ => ⟨rfl, e0, (by decide : 0 + 0 ≤ _), (by decide : 0 + 0 ≤ _)⟩)
  dsimp only [Pt.U, Pt.locs, Pt.cells, Pt.slots] at X_1 l_1 y_1 z_1 st_1 hQ_1
  subst l_1 y_1 z_1
  obtain ⟨rfl, N_1q, K_1, G1, G2⟩ := hQ_1
  have Z0 := Nat.le_trans Z0 K_1.1
  have Z1 := Nat.le_trans Z1 K_1.1
  have K0 := K0.trans K_1 (allS (Or.inl (List.mem_of_getElem? (i := 0) rfl)) all0)
  have E_a := E_a.keep K_1
  have F_putMode_a := G1
  have F_accessOrder_a := G2
  have N_1 := Fr.app N0 N_1q
  refine hst (fun _ kt => st_1.trans kt) ?_
  show G (T_1.setTop (mkF mI 4 #[.val (.ref a)] []))
  refine o_aloadN hst X_1.here hx (hb hby dl0_4) (pc' := 5) rfl rfl rfl ?_
  refine o_iconst hst X_1.here hx (hb hby dl0_5) (pc' := 6) rfl (z := (0 : Int32)) rfl ?_
  obtain ⟨T_2, h_2, X_2, e_2, W_2, st_2⟩ := putF X_1 hx hZ hown (host := "") (Or.inl (own_w108 hw)) Via.refl rfl F_putMode_a E_a (Or.inl (own_w109 hw)) (own_w72 hw) (ty := .int) (by decide) rfl rfl (g := (mkF mI 6 #[.val (.ref a)] [(.int (0 : Int32)), (.ref a)])) rfl rfl (hb hby dl0_6)
  have Z0 := Nat.le_trans Z0 (Keep.of_wr W_2).1
  have Z1 := Nat.le_trans Z1 (Keep.of_wr W_2).1
  have K0 := K0.wr W_2 (Or.inl (List.mem_of_getElem? (i := 0) rfl))
  have E_a := E_a.wr W_2
  have F_putMode_a := F_putMode_a.same W_2
  have F_accessOrder_a := F_accessOrder_a.other W_2 (Or.inr (slot_ne (Or.inr (own_w111 hw)) (Or.inl (own_w109 hw)) (by decide) (t := .boolean) (t' := .int) (by decide) (by decide)))
  have N_2 := Fr.snoc X_2 N_1 le_n0_a
  refine hst st_2 ?_
  show G (T_2.setTop (mkF mI 9 #[.val (.ref a)] []))
  refine o_aloadN hst X_2.here hx (hb hby dl0_9) (pc' := 10) rfl rfl rfl ?_
  refine o_iconst hst X_2.here hx (hb hby dl0_10) (pc' := 11) rfl (z := (0 : Int32)) rfl ?_
  obtain ⟨T_3, h_3, X_3, e_3, W_3, st_3⟩ := putFN X_2 hx hZ hown (own_w110 hw) Via.refl e_2 F_accessOrder_a E_a (Or.inr ⟨(own_w111 hw), rfl, hnm⟩) (own_w72 hw) (ty := .boolean) (v' := (.int (0 : Int32))) (by decide) rfl rfl (g := (mkF mI 11 #[.val (.ref a)] [(.int (0 : Int32)), (.ref a)])) rfl rfl (hb hby dl0_11)
  have Z0 := Nat.le_trans Z0 (Keep.of_wr W_3).1
  have Z1 := Nat.le_trans Z1 (Keep.of_wr W_3).1
  have K0 := K0.wr W_3 (Or.inl (List.mem_of_getElem? (i := 0) rfl))
  have E_a := E_a.wr W_3
  have F_putMode_a := F_putMode_a.other W_3 (Or.inr (slot_ne (Or.inl (own_w109 hw)) (Or.inr (own_w111 hw)) (by decide) (t := .int) (t' := .boolean) (by decide) (by decide)))
  have F_accessOrder_a := F_accessOrder_a.same W_3
  have N_3 := Fr.snoc X_3 N_2 le_n0_a
  refine hst st_3 ?_
  show G (T_3.setTop (mkF mI 14 #[.val (.ref a)] []))
  exact hend (own_goVoid X_3 hx Bd.returns (hb hby dl0_14) Bd.notSynchronized (by rw [e_3]; exact ⟨rfl, N_3, K0⟩) (by decide) (by decide))
def own_Qhs (Z : State) (a : Addr) (h0 : Heap) (n0 : Nat) (v : Option Value) (h : Heap) (L : List Loc) : Prop := v = none ∧ Fr n0 L ∧ Keep h0 h [a] ∧ Exa Z h a "java/util/LinkedHashSet" ∧ ∃ m : Addr, h0.size ≤ m ∧ Fld Z h a "java/util/HashSet" "map" "Ljava/util/HashMap;" (.ref m) ∧ Exa Z h m "java/util/LinkedHashMap" ∧ Fld Z h m "java/util/HashMap" "size" "I" (.int (0 : Int32)) ∧ Fld Z h m "java/util/AbstractMap" "keySet" "Ljava/util/Set;" .null ∧ Fld Z h m "java/util/LinkedHashMap" "head" "Ljava/util/LinkedHashMap$Entry;" .null ∧ Fld Z h m "java/util/HashMap" "modCount" "I" (.int (0 : Int32))
theorem dhs_0 : decode jdk_93_method_5_code 0 = .ok (.aload_n 0, 1) := by decide +kernel
theorem dhs_1 : decode jdk_93_method_5_code 1 = .ok (.invokespecial 1, 3) := by decide +kernel
theorem dhs_4 : decode jdk_93_method_5_code 4 = .ok (.aload_n 0, 1) := by decide +kernel
theorem dhs_5 : decode jdk_93_method_5_code 5 = .ok (.new 42, 3) := by decide +kernel
theorem dhs_8 : decode jdk_93_method_5_code 8 = .ok (.dup, 1) := by decide +kernel
theorem dhs_9 : decode jdk_93_method_5_code 9 = .ok (.iload_n 1, 1) := by decide +kernel
theorem dhs_10 : decode jdk_93_method_5_code 10 = .ok (.fload_n 2, 1) := by decide +kernel
theorem dhs_11 : decode jdk_93_method_5_code 11 = .ok (.invokespecial 44, 3) := by decide +kernel
theorem dhs_14 : decode jdk_93_method_5_code 14 = .ok (.putfield 10, 3) := by decide +kernel
theorem dhs_17 : decode jdk_93_method_5_code 17 = .ok (.return_, 1) := by decide +kernel
theorem ef_hs (mI : MethodId) (a : Addr) : entryFrame mI #[(.ref a), (.int (16 : Int32)), (.float (1061158912 : UInt32)), (.int (1 : Int32))] 4 = mkF mI 0 #[.val (.ref a), .val (.int (16 : Int32)), .val (.float (1061158912 : UInt32)), .val (.int (1 : Int32))] [] := by first | (simp [entryFrame, mkF, argsToLocals, Value.category]; done) | rfl
theorem pn_hs : plainName "java/util/HashSet" = true := by first | decide +kernel | (simp [plainName, overriddenIn]; done)
set_option maxRecDepth 65536 in
set_option maxHeartbeats 40000000 in
theorem rmhs (lL : Launch) (Z : State) (a0 : Array Value) (hw : ∀ d ∈ tables_1, d.before a0 Z = true) (ws : List Jvm.Cond) (a : Addr) (h0 : Heap) (n0 : Nat) (Z0 : n0 ≤ h0.size) (F_map_a : Fld Z h0 a "java/util/HashSet" "map" "Ljava/util/HashMap;" .null) (E_a : Exa Z h0 a "java/util/LinkedHashSet") (le_n0_a : n0 ≤ a) :
    MetFree lL (⟨"java/util/HashSet", "<init>", "(IFZ)V"⟩ : MethodName) (head1 (Jvm.Cond.code (⟨"java/util/HashSet", "<init>", "(IFZ)V"⟩ : MethodName) jdk_93_method_5_code 4 none :: ws) ({ frames := 4, cells := 1, slots := 12, locals := 58 } : Room)) (fun a_ U_ => a_ = #[(.ref a), (.int (16 : Int32)), (.float (1061158912 : UInt32)), (.int (1 : Int32))] ∧ Z.Warmed39 U_.vm ∧ U_.heap = h0) (fun _ _ _ _ _ => True) (fun _ U_ o_ W_ => ∃ v_ L_, o_ = .returned v_ ∧ own_Qhs Z a h0 n0 v_ W_.heap L_ ∧ FrameEnd U_ o_ W_ L_ ({ frames := 4, cells := 1, slots := 12, locals := 58 } : Room).cells ({ frames := 4, cells := 1, slots := 12, locals := 58 } : Room).slots) := by
  refine MetFree.of_bodySF (plainFor_of_name pn_hs) hisR ?_
  intro pP eE sS mI args below meth cC s₁ Bd hml0 hP hK
  obtain ⟨rfl, hZ, hh⟩ := hP
  have hx := Bd.exec
  have hby := Bd.bytes
  have hml : cC.maxLocals = 4 := hml0
  have hown : sS.vm.findClass "java/util/HashSet" = some mI.cls := by have z := findClass_of_methodNamed Bd.named; exact z
  have hnm := (name_of_methodNamed Bd.named Bd.method).1
  have X0 : Stand pP lL eE ({ frames := 4, cells := 1, slots := 12, locals := 58 } : Room) sS mI #[(.ref a), (.int (16 : Int32)), (.float (1061158912 : UInt32)), (.int (1 : Int32))] below meth cC s₁ [] 0 0 := Stand.of_body Bd
  have e0 : s₁.heap = h0 := by rw [← hh, Bd.state]; rfl
  have N0 := Fr.nil n0
  obtain ⟨G, hG, hst, hend⟩ := own_abs pP eE below sS (own_Qhs Z a h0 n0) ({ frames := 4, cells := 1, slots := 12, locals := 58 } : Room).cells ({ frames := 4, cells := 1, slots := 12, locals := 58 } : Room).slots
  refine hG (S := s₁.setTop (entryFrame mI #[(.ref a), (.int (16 : Int32)), (.float (1061158912 : UInt32)), (.int (1 : Int32))] 4)) (hst (fun t_ kt_ => castTop (ef_hs mI a) kt_) ?_)
  have Z1 := Nat.le_refl h0.size
  have K0 := Keep.refl h0 [a]
  show G (s₁.setTop (mkF mI 0 #[.val (.ref a), .val (.int (16 : Int32)), .val (.float (1061158912 : UInt32)), .val (.int (1 : Int32))] []))
  refine o_aloadN hst X0.here hx (hb hby dhs_0) (pc' := 1) rfl rfl rfl ?_
  obtain ⟨_, _, ⟨T_1, L_1, k_1, n_1⟩, -, X_1, ⟨Lc_1, hQ_1, l_1, y_1, z_1⟩, st_1⟩ := X0.specialBack hx (y := (⟨"java/util/AbstractSet", "<init>", "()V"⟩ : MethodName)) rfl hown (mvT hZ (own_w58 hw)) (mvT hZ (own_w59 hw)) (mvT hZ (own_w63 hw)) (by decide) (backOf (W := 0) (rmAS lL Z a0 hw [] a  h0 n0 Z0) hZ (own_w63 hw) (own_w62 hw) (by decide) (by decide)) (g := (mkF mI 1 #[.val (.ref a), .val (.int (16 : Int32)), .val (.float (1061158912 : UInt32)), .val (.int (1 : Int32))] [(.ref a)])) rfl (by rw [hml]; rfl) (Steps.refl _) (a := a) (argsL := []) (rest := []) (lenOf pd_0 rfl) rfl (by show 2 * 0 + _ ≤ _; exact Nat.le_of_eq rfl) (hb hby dhs_1) (fun _ _ => ⟨rfl, e0, (by decide : 0 + 0 ≤ _), (by decide : 0 + 0 ≤ _)⟩)
  dsimp only [Pt.U, Pt.locs, Pt.cells, Pt.slots] at X_1 l_1 y_1 z_1 st_1 hQ_1
  subst l_1 y_1 z_1
  obtain ⟨rfl, N_1q, eh_1⟩ := hQ_1
  have N_1 := Fr.app N0 N_1q
  refine hst (fun _ kt => st_1.trans kt) ?_
  show G (T_1.setTop (mkF mI 4 #[.val (.ref a), .val (.int (16 : Int32)), .val (.float (1061158912 : UInt32)), .val (.int (1 : Int32))] []))
  refine o_aloadN hst X_1.here hx (hb hby dhs_4) (pc' := 5) rfl rfl rfl ?_
  obtain ⟨T_2, h_2, X_2, e_2, E_2, A_2, D_2, -, st_2⟩ := newO X_1 hx hZ hown (own_w71 hw) (own_w72 hw) (own_w73 hw) eh_1 (g := (mkF mI 5 #[.val (.ref a), .val (.int (16 : Int32)), .val (.float (1061158912 : UInt32)), .val (.int (1 : Int32))] [(.ref a)])) rfl (hb hby dhs_5) (by decide) (by decide)
  obtain ⟨m, g_m⟩ : ∃ z, z = h0.size := ⟨_, rfl⟩
  rw [← g_m] at A_2 D_2 st_2
  have ne_a_m : a ≠ m := Nat.ne_of_lt (Nat.lt_of_lt_of_le F_map_a.lt (Nat.le_of_eq g_m.symm))
  have le_n0_m : n0 ≤ m := Nat.le_trans Z0 (Nat.le_of_eq g_m.symm)
  have le_hh_m : h0.size ≤ m := Nat.le_trans Z1 (Nat.le_of_eq g_m.symm)
  have Z0 := Nat.le_trans Z0 E_2.1
  have Z1 := Nat.le_trans Z1 E_2.1
  have K0 := K0.ext E_2
  have F_map_a := F_map_a.ext E_2
  have E_a := E_a.ext E_2
  have E_m : Exa Z h_2 m "java/util/LinkedHashMap" := A_2
  have F_loadFactor_m : Fld Z h_2 m "java/util/HashMap" "loadFactor" "F" (defaultValue .float) := D_2 (Or.inr (own_w97 hw)) (ty := .float) (by decide)
  have F_threshold_m : Fld Z h_2 m "java/util/HashMap" "threshold" "I" (.int (0 : Int32)) := D_2 (Or.inl (own_w107 hw)) (ty := .int) (by decide)
  have F_putMode_m : Fld Z h_2 m "java/util/LinkedHashMap" "putMode" "I" (.int (0 : Int32)) := D_2 (Or.inl (own_w109 hw)) (ty := .int) (by decide)
  have F_accessOrder_m : Fld Z h_2 m "java/util/LinkedHashMap" "accessOrder" "Z" (.int (0 : Int32)) := D_2 (Or.inr (own_w111 hw)) (ty := .boolean) (by decide)
  have F_size_m : Fld Z h_2 m "java/util/HashMap" "size" "I" (.int (0 : Int32)) := D_2 (Or.inl (own_w215 hw)) (ty := .int) (by decide)
  have F_keySet_m : Fld Z h_2 m "java/util/AbstractMap" "keySet" "Ljava/util/Set;" .null := D_2 (Or.inl (own_w237 hw)) (ty := (.object "java/util/Set")) (by decide)
  have F_head_m : Fld Z h_2 m "java/util/LinkedHashMap" "head" "Ljava/util/LinkedHashMap$Entry;" .null := D_2 (Or.inl (own_w278 hw)) (ty := (.object "java/util/LinkedHashMap$Entry")) (by decide)
  have F_modCount_m : Fld Z h_2 m "java/util/HashMap" "modCount" "I" (.int (0 : Int32)) := D_2 (Or.inl (own_w283 hw)) (ty := .int) (by decide)
  refine hst st_2 ?_
  show G (T_2.setTop (mkF mI 8 #[.val (.ref a), .val (.int (16 : Int32)), .val (.float (1061158912 : UInt32)), .val (.int (1 : Int32))] [(.ref m), (.ref a)]))
  refine o_dup hst X_2.here hx (hb hby dhs_8) (pc' := 9) rfl rfl ?_
  refine o_iloadN hst X_2.here hx (hb hby dhs_9) (pc' := 10) rfl rfl ?_
  refine o_floadN hst X_2.here hx (hb hby dhs_10) (pc' := 11) rfl rfl ?_
  obtain ⟨_, _, ⟨T_3, L_3, k_3, n_3⟩, -, X_3, ⟨Lc_3, hQ_3, l_3, y_3, z_3⟩, st_3⟩ := X_2.specialBack hx (y := (⟨"java/util/LinkedHashMap", "<init>", "(IF)V"⟩ : MethodName)) rfl hown (mvT hZ (own_w74 hw)) (mvT hZ (own_w75 hw)) (mvT hZ (own_w77 hw)) (by decide) (backOf (W := 2) (rmlm lL Z a0 hw [] m  h_2 n0 Z0 F_loadFactor_m F_threshold_m F_putMode_m F_accessOrder_m F_size_m F_keySet_m F_head_m F_modCount_m E_m le_n0_m) hZ (own_w77 hw) (own_w73 hw) (by decide) (by decide)) (g := (mkF mI 11 #[.val (.ref a), .val (.int (16 : Int32)), .val (.float (1061158912 : UInt32)), .val (.int (1 : Int32))] [(.float (1061158912 : UInt32)), (.int (16 : Int32)), (.ref m), (.ref m), (.ref a)])) rfl (by rw [hml]; rfl) (Steps.refl _) (a := m) (argsL := [(.int (16 : Int32)), (.float (1061158912 : UInt32))]) (rest := [(.ref m), (.ref a)]) (lenOf pd_3 rfl) rfl (by show 2 * 0 + _ ≤ _; exact Nat.le_of_eq rfl) (hb hby dhs_11) (fun _ _ => ⟨rfl, e_2, (by decide : 1 + 0 ≤ _), (by decide : 12 + 0 ≤ _)⟩)
  dsimp only [Pt.U, Pt.locs, Pt.cells, Pt.slots] at X_3 l_3 y_3 z_3 st_3 hQ_3
  subst l_3 y_3 z_3
  obtain ⟨rfl, N_3q, K_3, Ex_3, GF_size_m, GF_keySet_m, GF_head_m, GF_modCount_m⟩ := hQ_3
  have Z0 := Nat.le_trans Z0 K_3.1
  have Z1 := Nat.le_trans Z1 K_3.1
  have K0 := K0.trans K_3 (allS (Or.inr le_hh_m) all0)
  have F_map_a := F_map_a.keep K_3 (ninS ne_a_m nin0)
  have E_a := E_a.keep K_3
  have E_m := E_m.keep K_3
  have F_size_m := GF_size_m
  have F_keySet_m := GF_keySet_m
  have F_head_m := GF_head_m
  have F_modCount_m := GF_modCount_m
  have N_3 := Fr.app N_1 N_3q
  refine hst (fun _ kt => st_3.trans kt) ?_
  show G (T_3.setTop (mkF mI 14 #[.val (.ref a), .val (.int (16 : Int32)), .val (.float (1061158912 : UInt32)), .val (.int (1 : Int32))] [(.ref m), (.ref a)]))
  obtain ⟨T_4, h_4, X_4, e_4, W_4, st_4⟩ := putF X_3 hx hZ hown (host := "") (Or.inl (own_w112 hw)) Via.refl rfl F_map_a E_a (Or.inl (own_w113 hw)) (own_w46 hw) (ty := (.object "java/util/HashMap")) (by decide) rfl rfl (g := (mkF mI 14 #[.val (.ref a), .val (.int (16 : Int32)), .val (.float (1061158912 : UInt32)), .val (.int (1 : Int32))] [(.ref m), (.ref a)])) rfl rfl (hb hby dhs_14)
  have Z0 := Nat.le_trans Z0 (Keep.of_wr W_4).1
  have Z1 := Nat.le_trans Z1 (Keep.of_wr W_4).1
  have K0 := K0.wr W_4 (Or.inl (List.mem_of_getElem? (i := 0) rfl))
  have F_map_a := F_map_a.same W_4
  have E_a := E_a.wr W_4
  have E_m := E_m.wr W_4
  have F_size_m := F_size_m.other W_4 (Or.inl (Ne.symm ne_a_m))
  have F_keySet_m := F_keySet_m.other W_4 (Or.inl (Ne.symm ne_a_m))
  have F_head_m := F_head_m.other W_4 (Or.inl (Ne.symm ne_a_m))
  have F_modCount_m := F_modCount_m.other W_4 (Or.inl (Ne.symm ne_a_m))
  have N_4 := Fr.snoc X_4 N_3 le_n0_a
  refine hst st_4 ?_
  show G (T_4.setTop (mkF mI 17 #[.val (.ref a), .val (.int (16 : Int32)), .val (.float (1061158912 : UInt32)), .val (.int (1 : Int32))] []))
  exact hend (own_goVoid X_4 hx Bd.returns (hb hby dhs_17) Bd.notSynchronized (by rw [e_4]; exact ⟨rfl, N_4, K0, E_a, m, le_hh_m, F_map_a, E_m, F_size_m, F_keySet_m, F_head_m, F_modCount_m⟩) (by decide) (by decide))
theorem dls_0 : decode jdk_2620_method_3_code 0 = .ok (.aload_n 0, 1) := by decide +kernel
theorem dls_1 : decode jdk_2620_method_3_code 1 = .ok (.bipush 16, 2) := by decide +kernel
theorem dls_3 : decode jdk_2620_method_3_code 3 = .ok (.ldc 7, 2) := by decide +kernel
theorem dls_5 : decode jdk_2620_method_3_code 5 = .ok (.iconst 1, 1) := by decide +kernel
theorem dls_6 : decode jdk_2620_method_3_code 6 = .ok (.invokespecial 1, 3) := by decide +kernel
theorem dls_9 : decode jdk_2620_method_3_code 9 = .ok (.return_, 1) := by decide +kernel
theorem ef_ls (mI : MethodId) (a : Addr) : entryFrame mI #[(.ref a)] 1 = mkF mI 0 #[.val (.ref a)] [] := by first | (simp [entryFrame, mkF, argsToLocals, Value.category]; done) | rfl
theorem pn_ls : plainName "java/util/LinkedHashSet" = true := by first | decide +kernel | (simp [plainName, overriddenIn]; done)
set_option maxRecDepth 65536 in
set_option maxHeartbeats 40000000 in
theorem rmls (lL : Launch) (Z : State) (a0 : Array Value) (hw : ∀ d ∈ tables_1, d.before a0 Z = true) (ws : List Jvm.Cond) (a : Addr) (h0 : Heap) (n0 : Nat) (Z0 : n0 ≤ h0.size) (F_map_a : Fld Z h0 a "java/util/HashSet" "map" "Ljava/util/HashMap;" .null) (E_a : Exa Z h0 a "java/util/LinkedHashSet") (le_n0_a : n0 ≤ a) :
    MetFree lL (⟨"java/util/LinkedHashSet", "<init>", "()V"⟩ : MethodName) (head1 (Jvm.Cond.code (⟨"java/util/LinkedHashSet", "<init>", "()V"⟩ : MethodName) jdk_2620_method_3_code 1 none :: ws) ({ frames := 5, cells := 1, slots := 12, locals := 73 } : Room)) (fun a_ U_ => a_ = #[(.ref a)] ∧ Z.Warmed39 U_.vm ∧ U_.heap = h0) (fun _ _ _ _ _ => True) (fun _ U_ o_ W_ => ∃ v_ L_, o_ = .returned v_ ∧ own_Qhs Z a h0 n0 v_ W_.heap L_ ∧ FrameEnd U_ o_ W_ L_ ({ frames := 5, cells := 1, slots := 12, locals := 73 } : Room).cells ({ frames := 5, cells := 1, slots := 12, locals := 73 } : Room).slots) := by
  refine MetFree.of_bodySF (plainFor_of_name pn_ls) hisR ?_
  intro pP eE sS mI args below meth cC s₁ Bd hml0 hP hK
  obtain ⟨rfl, hZ, hh⟩ := hP
  have hx := Bd.exec
  have hby := Bd.bytes
  have hml : cC.maxLocals = 1 := hml0
  have hown : sS.vm.findClass "java/util/LinkedHashSet" = some mI.cls := by have z := findClass_of_methodNamed Bd.named; exact z
  have hnm := (name_of_methodNamed Bd.named Bd.method).1
  have X0 : Stand pP lL eE ({ frames := 5, cells := 1, slots := 12, locals := 73 } : Room) sS mI #[(.ref a)] below meth cC s₁ [] 0 0 := Stand.of_body Bd
  have e0 : s₁.heap = h0 := by rw [← hh, Bd.state]; rfl
  have N0 := Fr.nil n0
  obtain ⟨G, hG, hst, hend⟩ := own_abs pP eE below sS (own_Qhs Z a h0 n0) ({ frames := 5, cells := 1, slots := 12, locals := 73 } : Room).cells ({ frames := 5, cells := 1, slots := 12, locals := 73 } : Room).slots
  refine hG (S := s₁.setTop (entryFrame mI #[(.ref a)] 1)) (hst (fun t_ kt_ => castTop (ef_ls mI a) kt_) ?_)
  have Z1 := Nat.le_refl h0.size
  have K0 := Keep.refl h0 [a]
  show G (s₁.setTop (mkF mI 0 #[.val (.ref a)] []))
  refine o_aloadN hst X0.here hx (hb hby dls_0) (pc' := 1) rfl rfl rfl ?_
  refine o_bipush hst X0.here hx (hb hby dls_1) (pc' := 3) rfl (z := (16 : Int32)) rfl ?_
  refine hst (X0.ldcFloatC hx hown (mvT hZ (own_w51 hw)) (g := (mkF mI 3 #[.val (.ref a)] [(.int (16 : Int32)), (.ref a)])) rfl (hb hby dls_3)) ?_
  show G (s₁.setTop (mkF mI 5 #[.val (.ref a)] [(.float (1061158912 : UInt32)), (.int (16 : Int32)), (.ref a)]))
  refine o_iconst hst X0.here hx (hb hby dls_5) (pc' := 6) rfl (z := (1 : Int32)) rfl ?_
  obtain ⟨_, _, ⟨T_1, L_1, k_1, n_1⟩, -, X_1, ⟨Lc_1, hQ_1, l_1, y_1, z_1⟩, st_1⟩ := X0.specialBack hx (y := (⟨"java/util/HashSet", "<init>", "(IFZ)V"⟩ : MethodName)) rfl hown (mvT hZ (own_w52 hw)) (mvT hZ (own_w53 hw)) (mvT hZ (own_w57 hw)) (by decide) (backOf (W := 0) (rmhs lL Z a0 hw [] a  h0 n0 Z0 F_map_a E_a le_n0_a) hZ (own_w57 hw) (own_w56 hw) (by decide) (by decide)) (g := (mkF mI 6 #[.val (.ref a)] [(.int (1 : Int32)), (.float (1061158912 : UInt32)), (.int (16 : Int32)), (.ref a)])) rfl (by rw [hml]; rfl) (Steps.refl _) (a := a) (argsL := [(.int (16 : Int32)), (.float (1061158912 : UInt32)), (.int (1 : Int32))]) (rest := []) (lenOf pd_4 rfl) rfl (by show 2 * 0 + _ ≤ _; exact Nat.le_of_eq rfl) (hb hby dls_6) (fun _ _ => ⟨rfl, e0, (by decide : 0 + 1 ≤ _), (by decide : 0 + 12 ≤ _)⟩)
  dsimp only [Pt.U, Pt.locs, Pt.cells, Pt.slots] at X_1 l_1 y_1 z_1 st_1 hQ_1
  subst l_1 y_1 z_1
  obtain ⟨rfl, N_1q, K_1, Ex_1, m, le_m, G1, E_m, F_size_m, F_keySet_m, F_head_m, F_modCount_m⟩ := hQ_1
  have Z0 := Nat.le_trans Z0 K_1.1
  have Z1 := Nat.le_trans Z1 K_1.1
  have K0 := K0.trans K_1 (allS (Or.inl (List.mem_of_getElem? (i := 0) rfl)) all0)
  have E_a := E_a.keep K_1
  have N_1 := Fr.app N0 N_1q
  refine hst (fun _ kt => st_1.trans kt) ?_
  show G (T_1.setTop (mkF mI 9 #[.val (.ref a)] []))
  exact hend (own_goVoid X_1 hx Bd.returns (hb hby dls_9) Bd.notSynchronized (by exact ⟨rfl, N_1, K0, E_a, m, le_m, G1, E_m, F_size_m, F_keySet_m, F_head_m, F_modCount_m⟩) (by decide) (by decide))
theorem dpx_0 : decode prog_25_method_1_code 0 = .ok (.aload_n 0, 1) := by decide +kernel
theorem dpx_1 : decode prog_25_method_1_code 1 = .ok (.invokespecial 1, 3) := by decide +kernel
theorem dpx_4 : decode prog_25_method_1_code 4 = .ok (.aload_n 0, 1) := by decide +kernel
theorem dpx_5 : decode prog_25_method_1_code 5 = .ok (.new 7, 3) := by decide +kernel
theorem dpx_8 : decode prog_25_method_1_code 8 = .ok (.dup, 1) := by decide +kernel
theorem dpx_9 : decode prog_25_method_1_code 9 = .ok (.invokespecial 9, 3) := by decide +kernel
theorem dpx_12 : decode prog_25_method_1_code 12 = .ok (.putfield 10, 3) := by decide +kernel
theorem dpx_15 : decode prog_25_method_1_code 15 = .ok (.return_, 1) := by decide +kernel
theorem ef_px (mI : MethodId) (a : Addr) : entryFrame mI #[(.ref a)] 1 = mkF mI 0 #[.val (.ref a)] [] := by first | (simp [entryFrame, mkF, argsToLocals, Value.category]; done) | rfl
theorem pn_px : plainName own_PX = true := by first | decide +kernel | (simp [plainName, overriddenIn]; done)
set_option maxRecDepth 65536 in
set_option maxHeartbeats 40000000 in
theorem rmpx (lL : Launch) (Z : State) (a0 : Array Value) (hw : ∀ d ∈ tables_1, d.before a0 Z = true) (ws : List Jvm.Cond) (a : Addr) (h0 : Heap) (n0 : Nat) (Z0 : n0 ≤ h0.size) (F_declarations_a : Fld Z h0 a own_PX "declarations" "Ljava/util/Map;" .null) (E_a : Exa Z h0 a own_PX) (le_n0_a : n0 ≤ a) :
    MetFree lL (⟨own_PX, "<init>", "()V"⟩ : MethodName) (head1 (Jvm.Cond.code (⟨own_PX, "<init>", "()V"⟩ : MethodName) prog_25_method_1_code 1 none :: ws) ({ frames := 4, cells := 1, slots := 12, locals := 50 } : Room)) (fun a_ U_ => a_ = #[(.ref a)] ∧ Z.Warmed39 U_.vm ∧ U_.heap = h0) (fun _ _ _ _ _ => True) (fun _ U_ o_ W_ => ∃ v_ L_, o_ = .returned v_ ∧ own_QK [a] h0 n0 v_ W_.heap L_ ∧ FrameEnd U_ o_ W_ L_ ({ frames := 4, cells := 1, slots := 12, locals := 50 } : Room).cells ({ frames := 4, cells := 1, slots := 12, locals := 50 } : Room).slots) := by
  refine MetFree.of_bodySF (plainFor_of_name pn_px) hisR ?_
  intro pP eE sS mI args below meth cC s₁ Bd hml0 hP hK
  obtain ⟨rfl, hZ, hh⟩ := hP
  have hx := Bd.exec
  have hby := Bd.bytes
  have hml : cC.maxLocals = 1 := hml0
  have hown : sS.vm.findClass own_PX = some mI.cls := by have z := findClass_of_methodNamed Bd.named; exact z
  have hnm := (name_of_methodNamed Bd.named Bd.method).1
  have X0 : Stand pP lL eE ({ frames := 4, cells := 1, slots := 12, locals := 50 } : Room) sS mI #[(.ref a)] below meth cC s₁ [] 0 0 := Stand.of_body Bd
  have e0 : s₁.heap = h0 := by rw [← hh, Bd.state]; rfl
  have N0 := Fr.nil n0
  obtain ⟨G, hG, hst, hend⟩ := own_abs pP eE below sS (own_QK [a] h0 n0) ({ frames := 4, cells := 1, slots := 12, locals := 50 } : Room).cells ({ frames := 4, cells := 1, slots := 12, locals := 50 } : Room).slots
  refine hG (S := s₁.setTop (entryFrame mI #[(.ref a)] 1)) (hst (fun t_ kt_ => castTop (ef_px mI a) kt_) ?_)
  have Z1 := Nat.le_refl h0.size
  have K0 := Keep.refl h0 [a]
  show G (s₁.setTop (mkF mI 0 #[.val (.ref a)] []))
  refine o_aloadN hst X0.here hx (hb hby dpx_0) (pc' := 1) rfl rfl rfl ?_
  obtain ⟨T_1, X_1, e_1, st_1⟩ := initO X0 hx hZ hown (own_w140 hw) (own_w22 hw) (own_w23 hw) e0 (g := (mkF mI 1 #[.val (.ref a)] [(.ref a)])) rfl (by rw [hml]; rfl) rfl (hb hby dpx_1) (by decide) (W := 0) (by show 2 * 0 + _ ≤ _; exact Nat.le_of_eq rfl) (by decide)
  refine hst st_1 ?_
  show G (T_1.setTop (mkF mI 4 #[.val (.ref a)] []))
  refine o_aloadN hst X_1.here hx (hb hby dpx_4) (pc' := 5) rfl rfl rfl ?_
  obtain ⟨T_2, h_2, X_2, e_2, E_2, A_2, D_2, -, st_2⟩ := newO X_1 hx hZ hown (own_w141 hw) (own_w72 hw) (own_w73 hw) e_1 (g := (mkF mI 5 #[.val (.ref a)] [(.ref a)])) rfl (hb hby dpx_5) (by decide) (by decide)
  obtain ⟨m, g_m⟩ : ∃ z, z = h0.size := ⟨_, rfl⟩
  rw [← g_m] at A_2 D_2 st_2
  have ne_a_m : a ≠ m := Nat.ne_of_lt (Nat.lt_of_lt_of_le F_declarations_a.lt (Nat.le_of_eq g_m.symm))
  have le_n0_m : n0 ≤ m := Nat.le_trans Z0 (Nat.le_of_eq g_m.symm)
  have le_hh_m : h0.size ≤ m := Nat.le_trans Z1 (Nat.le_of_eq g_m.symm)
  have Z0 := Nat.le_trans Z0 E_2.1
  have Z1 := Nat.le_trans Z1 E_2.1
  have K0 := K0.ext E_2
  have F_declarations_a := F_declarations_a.ext E_2
  have E_a := E_a.ext E_2
  have E_m : Exa Z h_2 m "java/util/LinkedHashMap" := A_2
  have F_loadFactor_m : Fld Z h_2 m "java/util/HashMap" "loadFactor" "F" (defaultValue .float) := D_2 (Or.inr (own_w97 hw)) (ty := .float) (by decide)
  have F_putMode_m : Fld Z h_2 m "java/util/LinkedHashMap" "putMode" "I" (.int (0 : Int32)) := D_2 (Or.inl (own_w109 hw)) (ty := .int) (by decide)
  have F_accessOrder_m : Fld Z h_2 m "java/util/LinkedHashMap" "accessOrder" "Z" (.int (0 : Int32)) := D_2 (Or.inr (own_w111 hw)) (ty := .boolean) (by decide)
  refine hst st_2 ?_
  show G (T_2.setTop (mkF mI 8 #[.val (.ref a)] [(.ref m), (.ref a)]))
  refine o_dup hst X_2.here hx (hb hby dpx_8) (pc' := 9) rfl rfl ?_
  obtain ⟨_, _, ⟨T_3, L_3, k_3, n_3⟩, -, X_3, ⟨Lc_3, hQ_3, l_3, y_3, z_3⟩, st_3⟩ := X_2.specialBack hx (y := (⟨"java/util/LinkedHashMap", "<init>", "()V"⟩ : MethodName)) rfl hown (mvT hZ (own_w142 hw)) (mvT hZ (own_w143 hw)) (mvT hZ (own_w144 hw)) (by decide) (backOf (W := 2) (rml0 lL Z a0 hw [] m  h_2 n0 Z0 F_loadFactor_m F_putMode_m F_accessOrder_m E_m le_n0_m) hZ (own_w144 hw) (own_w73 hw) (by decide) (by decide)) (g := (mkF mI 9 #[.val (.ref a)] [(.ref m), (.ref m), (.ref a)])) rfl (by rw [hml]; rfl) (Steps.refl _) (a := m) (argsL := []) (rest := [(.ref m), (.ref a)]) (lenOf pd_0 rfl) rfl (by show 2 * 0 + _ ≤ _; exact Nat.le_of_eq rfl) (hb hby dpx_9) (fun _ _ => ⟨rfl, e_2, (by decide : 1 + 0 ≤ _), (by decide : 12 + 0 ≤ _)⟩)
  dsimp only [Pt.U, Pt.locs, Pt.cells, Pt.slots] at X_3 l_3 y_3 z_3 st_3 hQ_3
  subst l_3 y_3 z_3
  obtain ⟨rfl, N_3q, K_3⟩ := hQ_3
  have Z0 := Nat.le_trans Z0 K_3.1
  have Z1 := Nat.le_trans Z1 K_3.1
  have K0 := K0.trans K_3 (allS (Or.inr le_hh_m) all0)
  have F_declarations_a := F_declarations_a.keep K_3 (ninS ne_a_m nin0)
  have E_a := E_a.keep K_3
  have E_m := E_m.keep K_3
  have N_3 := Fr.app N0 N_3q
  refine hst (fun _ kt => st_3.trans kt) ?_
  show G (T_3.setTop (mkF mI 12 #[.val (.ref a)] [(.ref m), (.ref a)]))
  obtain ⟨T_4, h_4, X_4, e_4, W_4, st_4⟩ := putF X_3 hx hZ hown (host := "") (Or.inl (own_w150 hw)) Via.refl rfl F_declarations_a E_a (Or.inr ⟨(own_w151 hw), rfl, hnm⟩) (own_w135 hw) (ty := (.object "java/util/Map")) (by decide) rfl rfl (g := (mkF mI 12 #[.val (.ref a)] [(.ref m), (.ref a)])) rfl rfl (hb hby dpx_12)
  have Z0 := Nat.le_trans Z0 (Keep.of_wr W_4).1
  have Z1 := Nat.le_trans Z1 (Keep.of_wr W_4).1
  have K0 := K0.wr W_4 (Or.inl (List.mem_of_getElem? (i := 0) rfl))
  have F_declarations_a := F_declarations_a.same W_4
  have E_a := E_a.wr W_4
  have E_m := E_m.wr W_4
  have N_4 := Fr.snoc X_4 N_3 le_n0_a
  refine hst st_4 ?_
  show G (T_4.setTop (mkF mI 15 #[.val (.ref a)] []))
  exact hend (own_goVoid X_4 hx Bd.returns (hb hby dpx_15) Bd.notSynchronized (by rw [e_4]; exact ⟨rfl, N_4, K0⟩) (by decide) (by decide))
def own_Qtt (Z : State) (t : Addr) (h0 : Heap) (n0 : Nat) (v : Option Value) (h : Heap) (L : List Loc) : Prop := v = none ∧ Fr n0 L ∧ Keep h0 h [t] ∧ ∃ (s m bs bp bo bf bt : Addr) (k_bs k_bp k_bo k_bf k_bt : ClassId), (h0.size ≤ s ∧ h0.size ≤ m ∧ h0.size ≤ bs ∧ h0.size ≤ bp ∧ h0.size ≤ bo ∧ h0.size ≤ bf ∧ h0.size ≤ bt) ∧ bs ≠ bp ∧ bs ≠ bo ∧ bs ≠ bf ∧ bs ≠ bt ∧ bp ≠ bo ∧ bp ≠ bf ∧ bp ≠ bt ∧ bo ≠ bf ∧ bo ≠ bt ∧ bf ≠ bt ∧ Exa Z h t own_TT ∧ Fld Z h t own_TT "subjects" "[I" (.ref bs) ∧ Fld Z h t own_TT "predicates" "[I" (.ref bp) ∧ Fld Z h t own_TT "objects" "[I" (.ref bo) ∧ Fld Z h t own_TT "firstGraphs" "[I" (.ref bf) ∧ Fld Z h t own_TT "table" "[I" (.ref bt) ∧ Fld Z h t own_TT "otherGraphs" "Ljava/util/Set;" (.ref s) ∧ Fld Z h t own_TT "size" "I" (.int (0 : Int32)) ∧ Exa Z h s "java/util/LinkedHashSet" ∧ Fld Z h s "java/util/HashSet" "map" "Ljava/util/HashMap;" (.ref m) ∧ Exa Z h m "java/util/LinkedHashMap" ∧ Fld Z h m "java/util/HashMap" "size" "I" (.int (0 : Int32)) ∧ Fld Z h m "java/util/AbstractMap" "keySet" "Ljava/util/Set;" .null ∧ Fld Z h m "java/util/LinkedHashMap" "head" "Ljava/util/LinkedHashMap$Entry;" .null ∧ Fld Z h m "java/util/HashMap" "modCount" "I" (.int (0 : Int32)) ∧ Arv Z h bs k_bs .int (1024 : Int32) [] (.int (0 : Int32)) ∧ Arv Z h bp k_bp .int (1024 : Int32) [] (.int (0 : Int32)) ∧ Arv Z h bo k_bo .int (1024 : Int32) [] (.int (0 : Int32)) ∧ Arv Z h bf k_bf .int (1024 : Int32) [] (.int (0 : Int32)) ∧ Arv Z h bt k_bt .int (2048 : Int32) [] (.int (0 : Int32))
theorem dtt_0 : decode prog_37_method_1_code 0 = .ok (.aload_n 0, 1) := by decide +kernel
theorem dtt_1 : decode prog_37_method_1_code 1 = .ok (.invokespecial 1, 3) := by decide +kernel
theorem dtt_4 : decode prog_37_method_1_code 4 = .ok (.aload_n 0, 1) := by decide +kernel
theorem dtt_5 : decode prog_37_method_1_code 5 = .ok (.sipush 1024, 3) := by decide +kernel
theorem dtt_8 : decode prog_37_method_1_code 8 = .ok (.newarray .int, 2) := by decide +kernel
theorem dtt_10 : decode prog_37_method_1_code 10 = .ok (.putfield 9, 3) := by decide +kernel
theorem dtt_13 : decode prog_37_method_1_code 13 = .ok (.aload_n 0, 1) := by decide +kernel
theorem dtt_14 : decode prog_37_method_1_code 14 = .ok (.sipush 1024, 3) := by decide +kernel
theorem dtt_17 : decode prog_37_method_1_code 17 = .ok (.newarray .int, 2) := by decide +kernel
theorem dtt_19 : decode prog_37_method_1_code 19 = .ok (.putfield 13, 3) := by decide +kernel
theorem dtt_22 : decode prog_37_method_1_code 22 = .ok (.aload_n 0, 1) := by decide +kernel
theorem dtt_23 : decode prog_37_method_1_code 23 = .ok (.sipush 1024, 3) := by decide +kernel
theorem dtt_26 : decode prog_37_method_1_code 26 = .ok (.newarray .int, 2) := by decide +kernel
theorem dtt_28 : decode prog_37_method_1_code 28 = .ok (.putfield 16, 3) := by decide +kernel
theorem dtt_31 : decode prog_37_method_1_code 31 = .ok (.aload_n 0, 1) := by decide +kernel
theorem dtt_32 : decode prog_37_method_1_code 32 = .ok (.sipush 1024, 3) := by decide +kernel
theorem dtt_35 : decode prog_37_method_1_code 35 = .ok (.newarray .int, 2) := by decide +kernel
theorem dtt_37 : decode prog_37_method_1_code 37 = .ok (.putfield 19, 3) := by decide +kernel
theorem dtt_40 : decode prog_37_method_1_code 40 = .ok (.aload_n 0, 1) := by decide +kernel
theorem dtt_41 : decode prog_37_method_1_code 41 = .ok (.new 22, 3) := by decide +kernel
theorem dtt_44 : decode prog_37_method_1_code 44 = .ok (.dup, 1) := by decide +kernel
theorem dtt_45 : decode prog_37_method_1_code 45 = .ok (.invokespecial 24, 3) := by decide +kernel
theorem dtt_48 : decode prog_37_method_1_code 48 = .ok (.putfield 25, 3) := by decide +kernel
theorem dtt_51 : decode prog_37_method_1_code 51 = .ok (.aload_n 0, 1) := by decide +kernel
theorem dtt_52 : decode prog_37_method_1_code 52 = .ok (.sipush 2048, 3) := by decide +kernel
theorem dtt_55 : decode prog_37_method_1_code 55 = .ok (.newarray .int, 2) := by decide +kernel
theorem dtt_57 : decode prog_37_method_1_code 57 = .ok (.putfield 29, 3) := by decide +kernel
theorem dtt_60 : decode prog_37_method_1_code 60 = .ok (.return_, 1) := by decide +kernel
theorem ef_tt (mI : MethodId) (t : Addr) : entryFrame mI #[(.ref t)] 1 = mkF mI 0 #[.val (.ref t)] [] := by first | (simp [entryFrame, mkF, argsToLocals, Value.category]; done) | rfl
theorem pn_tt : plainName own_TT = true := by first | decide +kernel | (simp [plainName, overriddenIn]; done)
set_option maxRecDepth 65536 in
set_option maxHeartbeats 40000000 in
theorem rmtt (lL : Launch) (Z : State) (a0 : Array Value) (hw : ∀ d ∈ tables_1, d.before a0 Z = true) (ws : List Jvm.Cond) (t : Addr) (h0 : Heap) (n0 : Nat) (Z0 : n0 ≤ h0.size) (F_subjects_t : Fld Z h0 t own_TT "subjects" "[I" .null) (F_predicates_t : Fld Z h0 t own_TT "predicates" "[I" .null) (F_objects_t : Fld Z h0 t own_TT "objects" "[I" .null) (F_firstGraphs_t : Fld Z h0 t own_TT "firstGraphs" "[I" .null) (F_table_t : Fld Z h0 t own_TT "table" "[I" .null) (F_otherGraphs_t : Fld Z h0 t own_TT "otherGraphs" "Ljava/util/Set;" .null) (F_size_t : Fld Z h0 t own_TT "size" "I" (.int (0 : Int32))) (E_t : Exa Z h0 t own_TT) (le_n0_t : n0 ≤ t) :
    MetFree lL (⟨own_TT, "<init>", "()V"⟩ : MethodName) (head1 (Jvm.Cond.code (⟨own_TT, "<init>", "()V"⟩ : MethodName) prog_37_method_1_code 1 none :: ws) ({ frames := 6, cells := 7, slots := 6157, locals := 87 } : Room)) (fun a_ U_ => a_ = #[(.ref t)] ∧ Z.Warmed39 U_.vm ∧ U_.heap = h0) (fun _ _ _ _ _ => True) (fun _ U_ o_ W_ => ∃ v_ L_, o_ = .returned v_ ∧ own_Qtt Z t h0 n0 v_ W_.heap L_ ∧ FrameEnd U_ o_ W_ L_ ({ frames := 6, cells := 7, slots := 6157, locals := 87 } : Room).cells ({ frames := 6, cells := 7, slots := 6157, locals := 87 } : Room).slots) := by
  refine MetFree.of_bodySF (plainFor_of_name pn_tt) hisR ?_
  intro pP eE sS mI args below meth cC s₁ Bd hml0 hP hK
  obtain ⟨rfl, hZ, hh⟩ := hP
  have hx := Bd.exec
  have hby := Bd.bytes
  have hml : cC.maxLocals = 1 := hml0
  have hown : sS.vm.findClass own_TT = some mI.cls := by have z := findClass_of_methodNamed Bd.named; exact z
  have hnm := (name_of_methodNamed Bd.named Bd.method).1
  have X0 : Stand pP lL eE ({ frames := 6, cells := 7, slots := 6157, locals := 87 } : Room) sS mI #[(.ref t)] below meth cC s₁ [] 0 0 := Stand.of_body Bd
  have e0 : s₁.heap = h0 := by rw [← hh, Bd.state]; rfl
  have N0 := Fr.nil n0
  obtain ⟨G, hG, hst, hend⟩ := own_abs pP eE below sS (own_Qtt Z t h0 n0) ({ frames := 6, cells := 7, slots := 6157, locals := 87 } : Room).cells ({ frames := 6, cells := 7, slots := 6157, locals := 87 } : Room).slots
  refine hG (S := s₁.setTop (entryFrame mI #[(.ref t)] 1)) (hst (fun t_ kt_ => castTop (ef_tt mI t) kt_) ?_)
  have Z1 := Nat.le_refl h0.size
  have K0 := Keep.refl h0 [t]
  show G (s₁.setTop (mkF mI 0 #[.val (.ref t)] []))
  refine o_aloadN hst X0.here hx (hb hby dtt_0) (pc' := 1) rfl rfl rfl ?_
  obtain ⟨T_1, X_1, e_1, st_1⟩ := initO X0 hx hZ hown (own_w35 hw) (own_w22 hw) (own_w23 hw) e0 (g := (mkF mI 1 #[.val (.ref t)] [(.ref t)])) rfl (by rw [hml]; rfl) rfl (hb hby dtt_1) (by decide) (W := 0) (by show 2 * 0 + _ ≤ _; exact Nat.le_of_eq rfl) (by decide)
  refine hst st_1 ?_
  show G (T_1.setTop (mkF mI 4 #[.val (.ref t)] []))
  refine o_aloadN hst X_1.here hx (hb hby dtt_4) (pc' := 5) rfl rfl rfl ?_
  refine o_sipush hst X_1.here hx (hb hby dtt_5) (pc' := 8) rfl (z := (1024 : Int32)) rfl ?_
  obtain ⟨T_2, h_2, k_bs, X_2, e_2, E_2, A_2, st_2⟩ := newP (aty := .int) X_1 hx hZ (own_w36 hw) e_1 (g := (mkF mI 8 #[.val (.ref t)] [(.int (1024 : Int32)), (.ref t)])) rfl (hb hby dtt_8) rfl (by decide) (cap := 1024) (by decide) (by decide) (by decide) (by decide)
  obtain ⟨bs, g_bs⟩ : ∃ z, z = h0.size := ⟨_, rfl⟩
  rw [← g_bs] at A_2 st_2
  have ne_t_bs : t ≠ bs := Nat.ne_of_lt (Nat.lt_of_lt_of_le F_subjects_t.lt (Nat.le_of_eq g_bs.symm))
  have le_n0_bs : n0 ≤ bs := Nat.le_trans Z0 (Nat.le_of_eq g_bs.symm)
  have le_hh_bs : h0.size ≤ bs := Nat.le_trans Z1 (Nat.le_of_eq g_bs.symm)
  have Z0 := Nat.le_trans Z0 E_2.1
  have Z1 := Nat.le_trans Z1 E_2.1
  have K0 := K0.ext E_2
  have F_subjects_t := F_subjects_t.ext E_2
  have F_predicates_t := F_predicates_t.ext E_2
  have F_objects_t := F_objects_t.ext E_2
  have F_firstGraphs_t := F_firstGraphs_t.ext E_2
  have F_table_t := F_table_t.ext E_2
  have F_otherGraphs_t := F_otherGraphs_t.ext E_2
  have F_size_t := F_size_t.ext E_2
  have E_t := E_t.ext E_2
  have V_bs : Arv Z h_2 bs k_bs .int (1024 : Int32) [] (.int (0 : Int32)) := Arv.new A_2 (by decide)
  refine hst st_2 ?_
  show G (T_2.setTop (mkF mI 10 #[.val (.ref t)] [(.ref bs), (.ref t)]))
  obtain ⟨T_3, h_3, X_3, e_3, W_3, st_3⟩ := putF X_2 hx hZ hown (host := "") (Or.inl (own_w37 hw)) Via.refl e_2 F_subjects_t E_t (Or.inl (own_w38 hw)) (own_w30 hw) (ty := (.array .int)) (by decide) rfl rfl (g := (mkF mI 10 #[.val (.ref t)] [(.ref bs), (.ref t)])) rfl rfl (hb hby dtt_10)
  have Z0 := Nat.le_trans Z0 (Keep.of_wr W_3).1
  have Z1 := Nat.le_trans Z1 (Keep.of_wr W_3).1
  have K0 := K0.wr W_3 (Or.inl (List.mem_of_getElem? (i := 0) rfl))
  have F_subjects_t := F_subjects_t.same W_3
  have F_predicates_t := F_predicates_t.other W_3 (Or.inr (slot_ne (Or.inl (own_w40 hw)) (Or.inl (own_w38 hw)) (by decide) (t := (.array .int)) (t' := (.array .int)) (by decide) (by decide)))
  have F_objects_t := F_objects_t.other W_3 (Or.inr (slot_ne (Or.inl (own_w42 hw)) (Or.inl (own_w38 hw)) (by decide) (t := (.array .int)) (t' := (.array .int)) (by decide) (by decide)))
  have F_firstGraphs_t := F_firstGraphs_t.other W_3 (Or.inr (slot_ne (Or.inl (own_w44 hw)) (Or.inl (own_w38 hw)) (by decide) (t := (.array .int)) (t' := (.array .int)) (by decide) (by decide)))
  have F_table_t := F_table_t.other W_3 (Or.inr (slot_ne (Or.inl (own_w117 hw)) (Or.inl (own_w38 hw)) (by decide) (t := (.array .int)) (t' := (.array .int)) (by decide) (by decide)))
  have F_otherGraphs_t := F_otherGraphs_t.other W_3 (Or.inr (slot_ne (Or.inr (own_w115 hw)) (Or.inl (own_w38 hw)) (by decide) (t := (.object "java/util/Set")) (t' := (.array .int)) (by decide) (by decide)))
  have F_size_t := F_size_t.other W_3 (Or.inr (slot_ne (Or.inl (own_w130 hw)) (Or.inl (own_w38 hw)) (by decide) (t := .int) (t' := (.array .int)) (by decide) (by decide)))
  have E_t := E_t.wr W_3
  have V_bs := V_bs.other W_3 (Ne.symm ne_t_bs)
  have N_3 := Fr.snoc X_3 N0 le_n0_t
  refine hst st_3 ?_
  show G (T_3.setTop (mkF mI 13 #[.val (.ref t)] []))
  refine o_aloadN hst X_3.here hx (hb hby dtt_13) (pc' := 14) rfl rfl rfl ?_
  refine o_sipush hst X_3.here hx (hb hby dtt_14) (pc' := 17) rfl (z := (1024 : Int32)) rfl ?_
  obtain ⟨T_4, h_4, k_bp, X_4, e_4, E_4, A_4, st_4⟩ := newP (aty := .int) X_3 hx hZ (own_w36 hw) e_3 (g := (mkF mI 17 #[.val (.ref t)] [(.int (1024 : Int32)), (.ref t)])) rfl (hb hby dtt_17) rfl (by decide) (cap := 1024) (by decide) (by decide) (by decide) (by decide)
  obtain ⟨bp, g_bp⟩ : ∃ z, z = h_3.size := ⟨_, rfl⟩
  rw [← g_bp] at A_4 st_4
  have ne_t_bp : t ≠ bp := Nat.ne_of_lt (Nat.lt_of_lt_of_le F_subjects_t.lt (Nat.le_of_eq g_bp.symm))
  have ne_bs_bp : bs ≠ bp := Nat.ne_of_lt (Nat.lt_of_lt_of_le V_bs.lt (Nat.le_of_eq g_bp.symm))
  have le_n0_bp : n0 ≤ bp := Nat.le_trans Z0 (Nat.le_of_eq g_bp.symm)
  have le_hh_bp : h0.size ≤ bp := Nat.le_trans Z1 (Nat.le_of_eq g_bp.symm)
  have Z0 := Nat.le_trans Z0 E_4.1
  have Z1 := Nat.le_trans Z1 E_4.1
  have K0 := K0.ext E_4
  have F_subjects_t := F_subjects_t.ext E_4
  have F_predicates_t := F_predicates_t.ext E_4
  have F_objects_t := F_objects_t.ext E_4
  have F_firstGraphs_t := F_firstGraphs_t.ext E_4
  have F_table_t := F_table_t.ext E_4
  have F_otherGraphs_t := F_otherGraphs_t.ext E_4
  have F_size_t := F_size_t.ext E_4
  have E_t := E_t.ext E_4
  have V_bs := V_bs.ext E_4
  have V_bp : Arv Z h_4 bp k_bp .int (1024 : Int32) [] (.int (0 : Int32)) := Arv.new A_4 (by decide)
  refine hst st_4 ?_
  show G (T_4.setTop (mkF mI 19 #[.val (.ref t)] [(.ref bp), (.ref t)]))
  obtain ⟨T_5, h_5, X_5, e_5, W_5, st_5⟩ := putF X_4 hx hZ hown (host := "") (Or.inl (own_w39 hw)) Via.refl e_4 F_predicates_t E_t (Or.inl (own_w40 hw)) (own_w30 hw) (ty := (.array .int)) (by decide) rfl rfl (g := (mkF mI 19 #[.val (.ref t)] [(.ref bp), (.ref t)])) rfl rfl (hb hby dtt_19)
  have Z0 := Nat.le_trans Z0 (Keep.of_wr W_5).1
  have Z1 := Nat.le_trans Z1 (Keep.of_wr W_5).1
  have K0 := K0.wr W_5 (Or.inl (List.mem_of_getElem? (i := 0) rfl))
  have F_subjects_t := F_subjects_t.other W_5 (Or.inr (slot_ne (Or.inl (own_w38 hw)) (Or.inl (own_w40 hw)) (by decide) (t := (.array .int)) (t' := (.array .int)) (by decide) (by decide)))
  have F_predicates_t := F_predicates_t.same W_5
  have F_objects_t := F_objects_t.other W_5 (Or.inr (slot_ne (Or.inl (own_w42 hw)) (Or.inl (own_w40 hw)) (by decide) (t := (.array .int)) (t' := (.array .int)) (by decide) (by decide)))
  have F_firstGraphs_t := F_firstGraphs_t.other W_5 (Or.inr (slot_ne (Or.inl (own_w44 hw)) (Or.inl (own_w40 hw)) (by decide) (t := (.array .int)) (t' := (.array .int)) (by decide) (by decide)))
  have F_table_t := F_table_t.other W_5 (Or.inr (slot_ne (Or.inl (own_w117 hw)) (Or.inl (own_w40 hw)) (by decide) (t := (.array .int)) (t' := (.array .int)) (by decide) (by decide)))
  have F_otherGraphs_t := F_otherGraphs_t.other W_5 (Or.inr (slot_ne (Or.inr (own_w115 hw)) (Or.inl (own_w40 hw)) (by decide) (t := (.object "java/util/Set")) (t' := (.array .int)) (by decide) (by decide)))
  have F_size_t := F_size_t.other W_5 (Or.inr (slot_ne (Or.inl (own_w130 hw)) (Or.inl (own_w40 hw)) (by decide) (t := .int) (t' := (.array .int)) (by decide) (by decide)))
  have E_t := E_t.wr W_5
  have V_bs := V_bs.other W_5 (Ne.symm ne_t_bs)
  have V_bp := V_bp.other W_5 (Ne.symm ne_t_bp)
  have N_5 := Fr.snoc X_5 N_3 le_n0_t
  refine hst st_5 ?_
  show G (T_5.setTop (mkF mI 22 #[.val (.ref t)] []))
  refine o_aloadN hst X_5.here hx (hb hby dtt_22) (pc' := 23) rfl rfl rfl ?_
  refine o_sipush hst X_5.here hx (hb hby dtt_23) (pc' := 26) rfl (z := (1024 : Int32)) rfl ?_
  obtain ⟨T_6, h_6, k_bo, X_6, e_6, E_6, A_6, st_6⟩ := newP (aty := .int) X_5 hx hZ (own_w36 hw) e_5 (g := (mkF mI 26 #[.val (.ref t)] [(.int (1024 : Int32)), (.ref t)])) rfl (hb hby dtt_26) rfl (by decide) (cap := 1024) (by decide) (by decide) (by decide) (by decide)
  obtain ⟨bo, g_bo⟩ : ∃ z, z = h_5.size := ⟨_, rfl⟩
  rw [← g_bo] at A_6 st_6
  have ne_t_bo : t ≠ bo := Nat.ne_of_lt (Nat.lt_of_lt_of_le F_subjects_t.lt (Nat.le_of_eq g_bo.symm))
  have ne_bs_bo : bs ≠ bo := Nat.ne_of_lt (Nat.lt_of_lt_of_le V_bs.lt (Nat.le_of_eq g_bo.symm))
  have ne_bp_bo : bp ≠ bo := Nat.ne_of_lt (Nat.lt_of_lt_of_le V_bp.lt (Nat.le_of_eq g_bo.symm))
  have le_n0_bo : n0 ≤ bo := Nat.le_trans Z0 (Nat.le_of_eq g_bo.symm)
  have le_hh_bo : h0.size ≤ bo := Nat.le_trans Z1 (Nat.le_of_eq g_bo.symm)
  have Z0 := Nat.le_trans Z0 E_6.1
  have Z1 := Nat.le_trans Z1 E_6.1
  have K0 := K0.ext E_6
  have F_subjects_t := F_subjects_t.ext E_6
  have F_predicates_t := F_predicates_t.ext E_6
  have F_objects_t := F_objects_t.ext E_6
  have F_firstGraphs_t := F_firstGraphs_t.ext E_6
  have F_table_t := F_table_t.ext E_6
  have F_otherGraphs_t := F_otherGraphs_t.ext E_6
  have F_size_t := F_size_t.ext E_6
  have E_t := E_t.ext E_6
  have V_bs := V_bs.ext E_6
  have V_bp := V_bp.ext E_6
  have V_bo : Arv Z h_6 bo k_bo .int (1024 : Int32) [] (.int (0 : Int32)) := Arv.new A_6 (by decide)
  refine hst st_6 ?_
  show G (T_6.setTop (mkF mI 28 #[.val (.ref t)] [(.ref bo), (.ref t)]))
  obtain ⟨T_7, h_7, X_7, e_7, W_7, st_7⟩ := putF X_6 hx hZ hown (host := "") (Or.inl (own_w41 hw)) Via.refl e_6 F_objects_t E_t (Or.inl (own_w42 hw)) (own_w30 hw) (ty := (.array .int)) (by decide) rfl rfl (g := (mkF mI 28 #[.val (.ref t)] [(.ref bo), (.ref t)])) rfl rfl (hb hby dtt_28)
  have Z0 := Nat.le_trans Z0 (Keep.of_wr W_7).1
  have Z1 := Nat.le_trans Z1 (Keep.of_wr W_7).1
  have K0 := K0.wr W_7 (Or.inl (List.mem_of_getElem? (i := 0) rfl))
  have F_subjects_t := F_subjects_t.other W_7 (Or.inr (slot_ne (Or.inl (own_w38 hw)) (Or.inl (own_w42 hw)) (by decide) (t := (.array .int)) (t' := (.array .int)) (by decide) (by decide)))
  have F_predicates_t := F_predicates_t.other W_7 (Or.inr (slot_ne (Or.inl (own_w40 hw)) (Or.inl (own_w42 hw)) (by decide) (t := (.array .int)) (t' := (.array .int)) (by decide) (by decide)))
  have F_objects_t := F_objects_t.same W_7
  have F_firstGraphs_t := F_firstGraphs_t.other W_7 (Or.inr (slot_ne (Or.inl (own_w44 hw)) (Or.inl (own_w42 hw)) (by decide) (t := (.array .int)) (t' := (.array .int)) (by decide) (by decide)))
  have F_table_t := F_table_t.other W_7 (Or.inr (slot_ne (Or.inl (own_w117 hw)) (Or.inl (own_w42 hw)) (by decide) (t := (.array .int)) (t' := (.array .int)) (by decide) (by decide)))
  have F_otherGraphs_t := F_otherGraphs_t.other W_7 (Or.inr (slot_ne (Or.inr (own_w115 hw)) (Or.inl (own_w42 hw)) (by decide) (t := (.object "java/util/Set")) (t' := (.array .int)) (by decide) (by decide)))
  have F_size_t := F_size_t.other W_7 (Or.inr (slot_ne (Or.inl (own_w130 hw)) (Or.inl (own_w42 hw)) (by decide) (t := .int) (t' := (.array .int)) (by decide) (by decide)))
  have E_t := E_t.wr W_7
  have V_bs := V_bs.other W_7 (Ne.symm ne_t_bs)
  have V_bp := V_bp.other W_7 (Ne.symm ne_t_bp)
  have V_bo := V_bo.other W_7 (Ne.symm ne_t_bo)
  have N_7 := Fr.snoc X_7 N_5 le_n0_t
  refine hst st_7 ?_
  show G (T_7.setTop (mkF mI 31 #[.val (.ref t)] []))
  refine o_aloadN hst X_7.here hx (hb hby dtt_31) (pc' := 32) rfl rfl rfl ?_
  refine o_sipush hst X_7.here hx (hb hby dtt_32) (pc' := 35) rfl (z := (1024 : Int32)) rfl ?_
  obtain ⟨T_8, h_8, k_bf, X_8, e_8, E_8, A_8, st_8⟩ := newP (aty := .int) X_7 hx hZ (own_w36 hw) e_7 (g := (mkF mI 35 #[.val (.ref t)] [(.int (1024 : Int32)), (.ref t)])) rfl (hb hby dtt_35) rfl (by decide) (cap := 1024) (by decide) (by decide) (by decide) (by decide)
  obtain ⟨bf, g_bf⟩ : ∃ z, z = h_7.size := ⟨_, rfl⟩
  rw [← g_bf] at A_8 st_8
  have ne_t_bf : t ≠ bf := Nat.ne_of_lt (Nat.lt_of_lt_of_le F_subjects_t.lt (Nat.le_of_eq g_bf.symm))
  have ne_bs_bf : bs ≠ bf := Nat.ne_of_lt (Nat.lt_of_lt_of_le V_bs.lt (Nat.le_of_eq g_bf.symm))
  have ne_bp_bf : bp ≠ bf := Nat.ne_of_lt (Nat.lt_of_lt_of_le V_bp.lt (Nat.le_of_eq g_bf.symm))
  have ne_bo_bf : bo ≠ bf := Nat.ne_of_lt (Nat.lt_of_lt_of_le V_bo.lt (Nat.le_of_eq g_bf.symm))
  have le_n0_bf : n0 ≤ bf := Nat.le_trans Z0 (Nat.le_of_eq g_bf.symm)
  have le_hh_bf : h0.size ≤ bf := Nat.le_trans Z1 (Nat.le_of_eq g_bf.symm)
  have Z0 := Nat.le_trans Z0 E_8.1
  have Z1 := Nat.le_trans Z1 E_8.1
  have K0 := K0.ext E_8
  have F_subjects_t := F_subjects_t.ext E_8
  have F_predicates_t := F_predicates_t.ext E_8
  have F_objects_t := F_objects_t.ext E_8
  have F_firstGraphs_t := F_firstGraphs_t.ext E_8
  have F_table_t := F_table_t.ext E_8
  have F_otherGraphs_t := F_otherGraphs_t.ext E_8
  have F_size_t := F_size_t.ext E_8
  have E_t := E_t.ext E_8
  have V_bs := V_bs.ext E_8
  have V_bp := V_bp.ext E_8
  have V_bo := V_bo.ext E_8
  have V_bf : Arv Z h_8 bf k_bf .int (1024 : Int32) [] (.int (0 : Int32)) := Arv.new A_8 (by decide)
  refine hst st_8 ?_
  show G (T_8.setTop (mkF mI 37 #[.val (.ref t)] [(.ref bf), (.ref t)]))
  obtain ⟨T_9, h_9, X_9, e_9, W_9, st_9⟩ := putF X_8 hx hZ hown (host := "") (Or.inl (own_w43 hw)) Via.refl e_8 F_firstGraphs_t E_t (Or.inl (own_w44 hw)) (own_w30 hw) (ty := (.array .int)) (by decide) rfl rfl (g := (mkF mI 37 #[.val (.ref t)] [(.ref bf), (.ref t)])) rfl rfl (hb hby dtt_37)
  have Z0 := Nat.le_trans Z0 (Keep.of_wr W_9).1
  have Z1 := Nat.le_trans Z1 (Keep.of_wr W_9).1
  have K0 := K0.wr W_9 (Or.inl (List.mem_of_getElem? (i := 0) rfl))
  have F_subjects_t := F_subjects_t.other W_9 (Or.inr (slot_ne (Or.inl (own_w38 hw)) (Or.inl (own_w44 hw)) (by decide) (t := (.array .int)) (t' := (.array .int)) (by decide) (by decide)))
  have F_predicates_t := F_predicates_t.other W_9 (Or.inr (slot_ne (Or.inl (own_w40 hw)) (Or.inl (own_w44 hw)) (by decide) (t := (.array .int)) (t' := (.array .int)) (by decide) (by decide)))
  have F_objects_t := F_objects_t.other W_9 (Or.inr (slot_ne (Or.inl (own_w42 hw)) (Or.inl (own_w44 hw)) (by decide) (t := (.array .int)) (t' := (.array .int)) (by decide) (by decide)))
  have F_firstGraphs_t := F_firstGraphs_t.same W_9
  have F_table_t := F_table_t.other W_9 (Or.inr (slot_ne (Or.inl (own_w117 hw)) (Or.inl (own_w44 hw)) (by decide) (t := (.array .int)) (t' := (.array .int)) (by decide) (by decide)))
  have F_otherGraphs_t := F_otherGraphs_t.other W_9 (Or.inr (slot_ne (Or.inr (own_w115 hw)) (Or.inl (own_w44 hw)) (by decide) (t := (.object "java/util/Set")) (t' := (.array .int)) (by decide) (by decide)))
  have F_size_t := F_size_t.other W_9 (Or.inr (slot_ne (Or.inl (own_w130 hw)) (Or.inl (own_w44 hw)) (by decide) (t := .int) (t' := (.array .int)) (by decide) (by decide)))
  have E_t := E_t.wr W_9
  have V_bs := V_bs.other W_9 (Ne.symm ne_t_bs)
  have V_bp := V_bp.other W_9 (Ne.symm ne_t_bp)
  have V_bo := V_bo.other W_9 (Ne.symm ne_t_bo)
  have V_bf := V_bf.other W_9 (Ne.symm ne_t_bf)
  have N_9 := Fr.snoc X_9 N_7 le_n0_t
  refine hst st_9 ?_
  show G (T_9.setTop (mkF mI 40 #[.val (.ref t)] []))
  refine o_aloadN hst X_9.here hx (hb hby dtt_40) (pc' := 41) rfl rfl rfl ?_
  obtain ⟨T_10, h_10, X_10, e_10, E_10, A_10, D_10, -, st_10⟩ := newO X_9 hx hZ hown (own_w45 hw) (own_w46 hw) (own_w47 hw) e_9 (g := (mkF mI 41 #[.val (.ref t)] [(.ref t)])) rfl (hb hby dtt_41) (by decide) (by decide)
  obtain ⟨s, g_s⟩ : ∃ z, z = h_9.size := ⟨_, rfl⟩
  rw [← g_s] at A_10 D_10 st_10
  have ne_t_s : t ≠ s := Nat.ne_of_lt (Nat.lt_of_lt_of_le F_subjects_t.lt (Nat.le_of_eq g_s.symm))
  have ne_bs_s : bs ≠ s := Nat.ne_of_lt (Nat.lt_of_lt_of_le V_bs.lt (Nat.le_of_eq g_s.symm))
  have ne_bp_s : bp ≠ s := Nat.ne_of_lt (Nat.lt_of_lt_of_le V_bp.lt (Nat.le_of_eq g_s.symm))
  have ne_bo_s : bo ≠ s := Nat.ne_of_lt (Nat.lt_of_lt_of_le V_bo.lt (Nat.le_of_eq g_s.symm))
  have ne_bf_s : bf ≠ s := Nat.ne_of_lt (Nat.lt_of_lt_of_le V_bf.lt (Nat.le_of_eq g_s.symm))
  have le_n0_s : n0 ≤ s := Nat.le_trans Z0 (Nat.le_of_eq g_s.symm)
  have le_hh_s : h0.size ≤ s := Nat.le_trans Z1 (Nat.le_of_eq g_s.symm)
  have Z0 := Nat.le_trans Z0 E_10.1
  have Z1 := Nat.le_trans Z1 E_10.1
  have K0 := K0.ext E_10
  have F_subjects_t := F_subjects_t.ext E_10
  have F_predicates_t := F_predicates_t.ext E_10
  have F_objects_t := F_objects_t.ext E_10
  have F_firstGraphs_t := F_firstGraphs_t.ext E_10
  have F_table_t := F_table_t.ext E_10
  have F_otherGraphs_t := F_otherGraphs_t.ext E_10
  have F_size_t := F_size_t.ext E_10
  have E_t := E_t.ext E_10
  have V_bs := V_bs.ext E_10
  have V_bp := V_bp.ext E_10
  have V_bo := V_bo.ext E_10
  have V_bf := V_bf.ext E_10
  have E_s : Exa Z h_10 s "java/util/LinkedHashSet" := A_10
  have F_map_s : Fld Z h_10 s "java/util/HashSet" "map" "Ljava/util/HashMap;" .null := D_10 (Or.inl (own_w113 hw)) (ty := (.object "java/util/HashMap")) (by decide)
  refine hst st_10 ?_
  show G (T_10.setTop (mkF mI 44 #[.val (.ref t)] [(.ref s), (.ref t)]))
  refine o_dup hst X_10.here hx (hb hby dtt_44) (pc' := 45) rfl rfl ?_
  obtain ⟨_, _, ⟨T_11, L_11, k_11, n_11⟩, -, X_11, ⟨Lc_11, hQ_11, l_11, y_11, z_11⟩, st_11⟩ := X_10.specialBack hx (y := (⟨"java/util/LinkedHashSet", "<init>", "()V"⟩ : MethodName)) rfl hown (mvT hZ (own_w48 hw)) (mvT hZ (own_w49 hw)) (mvT hZ (own_w50 hw)) (by decide) (backOf (W := 2) (rmls lL Z a0 hw [] s  h_10 n0 Z0 F_map_s E_s le_n0_s) hZ (own_w50 hw) (own_w47 hw) (by decide) (by decide)) (g := (mkF mI 45 #[.val (.ref t)] [(.ref s), (.ref s), (.ref t)])) rfl (by rw [hml]; rfl) (Steps.refl _) (a := s) (argsL := []) (rest := [(.ref s), (.ref t)]) (lenOf pd_0 rfl) rfl (by show 2 * 0 + _ ≤ _; exact Nat.le_of_eq rfl) (hb hby dtt_45) (fun _ _ => ⟨rfl, e_10, (by decide : 5 + 1 ≤ _), (by decide : 4097 + 12 ≤ _)⟩)
  dsimp only [Pt.U, Pt.locs, Pt.cells, Pt.slots] at X_11 l_11 y_11 z_11 st_11 hQ_11
  subst l_11 y_11 z_11
  obtain ⟨rfl, N_11q, K_11, Ex_11, m, le_m, G1, E_m, F_size_m, F_keySet_m, F_head_m, F_modCount_m⟩ := hQ_11
  have le_hh_m := Nat.le_trans Z1 le_m
  have Z0 := Nat.le_trans Z0 K_11.1
  have Z1 := Nat.le_trans Z1 K_11.1
  have K0 := K0.trans K_11 (allS (Or.inr le_hh_s) all0)
  have F_subjects_t := F_subjects_t.keep K_11 (ninS ne_t_s nin0)
  have F_predicates_t := F_predicates_t.keep K_11 (ninS ne_t_s nin0)
  have F_objects_t := F_objects_t.keep K_11 (ninS ne_t_s nin0)
  have F_firstGraphs_t := F_firstGraphs_t.keep K_11 (ninS ne_t_s nin0)
  have F_table_t := F_table_t.keep K_11 (ninS ne_t_s nin0)
  have F_otherGraphs_t := F_otherGraphs_t.keep K_11 (ninS ne_t_s nin0)
  have F_size_t := F_size_t.keep K_11 (ninS ne_t_s nin0)
  have E_t := E_t.keep K_11
  have V_bs := V_bs.keep K_11 (ninS ne_bs_s nin0)
  have V_bp := V_bp.keep K_11 (ninS ne_bp_s nin0)
  have V_bo := V_bo.keep K_11 (ninS ne_bo_s nin0)
  have V_bf := V_bf.keep K_11 (ninS ne_bf_s nin0)
  have E_s := E_s.keep K_11
  have F_map_s := G1
  have N_11 := Fr.app N_9 N_11q
  refine hst (fun _ kt => st_11.trans kt) ?_
  show G (T_11.setTop (mkF mI 48 #[.val (.ref t)] [(.ref s), (.ref t)]))
  obtain ⟨T_12, h_12, X_12, e_12, W_12, st_12⟩ := putF X_11 hx hZ hown (host := "") (Or.inl (own_w114 hw)) Via.refl rfl F_otherGraphs_t E_t (Or.inr ⟨(own_w115 hw), rfl, hnm⟩) (own_w30 hw) (ty := (.object "java/util/Set")) (by decide) rfl rfl (g := (mkF mI 48 #[.val (.ref t)] [(.ref s), (.ref t)])) rfl rfl (hb hby dtt_48)
  have ne_m_t : m ≠ t := ne_exa E_m E_t (by decide)
  have Z0 := Nat.le_trans Z0 (Keep.of_wr W_12).1
  have Z1 := Nat.le_trans Z1 (Keep.of_wr W_12).1
  have K0 := K0.wr W_12 (Or.inl (List.mem_of_getElem? (i := 0) rfl))
  have F_subjects_t := F_subjects_t.other W_12 (Or.inr (slot_ne (Or.inl (own_w38 hw)) (Or.inr (own_w115 hw)) (by decide) (t := (.array .int)) (t' := (.object "java/util/Set")) (by decide) (by decide)))
  have F_predicates_t := F_predicates_t.other W_12 (Or.inr (slot_ne (Or.inl (own_w40 hw)) (Or.inr (own_w115 hw)) (by decide) (t := (.array .int)) (t' := (.object "java/util/Set")) (by decide) (by decide)))
  have F_objects_t := F_objects_t.other W_12 (Or.inr (slot_ne (Or.inl (own_w42 hw)) (Or.inr (own_w115 hw)) (by decide) (t := (.array .int)) (t' := (.object "java/util/Set")) (by decide) (by decide)))
  have F_firstGraphs_t := F_firstGraphs_t.other W_12 (Or.inr (slot_ne (Or.inl (own_w44 hw)) (Or.inr (own_w115 hw)) (by decide) (t := (.array .int)) (t' := (.object "java/util/Set")) (by decide) (by decide)))
  have F_table_t := F_table_t.other W_12 (Or.inr (slot_ne (Or.inl (own_w117 hw)) (Or.inr (own_w115 hw)) (by decide) (t := (.array .int)) (t' := (.object "java/util/Set")) (by decide) (by decide)))
  have F_otherGraphs_t := F_otherGraphs_t.same W_12
  have F_size_t := F_size_t.other W_12 (Or.inr (slot_ne (Or.inl (own_w130 hw)) (Or.inr (own_w115 hw)) (by decide) (t := .int) (t' := (.object "java/util/Set")) (by decide) (by decide)))
  have E_t := E_t.wr W_12
  have V_bs := V_bs.other W_12 (Ne.symm ne_t_bs)
  have V_bp := V_bp.other W_12 (Ne.symm ne_t_bp)
  have V_bo := V_bo.other W_12 (Ne.symm ne_t_bo)
  have V_bf := V_bf.other W_12 (Ne.symm ne_t_bf)
  have E_s := E_s.wr W_12
  have F_map_s := F_map_s.other W_12 (Or.inl (Ne.symm ne_t_s))
  have E_m := E_m.wr W_12
  have F_size_m := F_size_m.other W_12 (Or.inl ne_m_t)
  have F_keySet_m := F_keySet_m.other W_12 (Or.inl ne_m_t)
  have F_head_m := F_head_m.other W_12 (Or.inl ne_m_t)
  have F_modCount_m := F_modCount_m.other W_12 (Or.inl ne_m_t)
  have N_12 := Fr.snoc X_12 N_11 le_n0_t
  refine hst st_12 ?_
  show G (T_12.setTop (mkF mI 51 #[.val (.ref t)] []))
  refine o_aloadN hst X_12.here hx (hb hby dtt_51) (pc' := 52) rfl rfl rfl ?_
  refine o_sipush hst X_12.here hx (hb hby dtt_52) (pc' := 55) rfl (z := (2048 : Int32)) rfl ?_
  obtain ⟨T_13, h_13, k_bt, X_13, e_13, E_13, A_13, st_13⟩ := newP (aty := .int) X_12 hx hZ (own_w36 hw) e_12 (g := (mkF mI 55 #[.val (.ref t)] [(.int (2048 : Int32)), (.ref t)])) rfl (hb hby dtt_55) rfl (by decide) (cap := 2048) (by decide) (by decide) (by decide) (by decide)
  obtain ⟨bt, g_bt⟩ : ∃ z, z = h_12.size := ⟨_, rfl⟩
  rw [← g_bt] at A_13 st_13
  have ne_t_bt : t ≠ bt := Nat.ne_of_lt (Nat.lt_of_lt_of_le F_subjects_t.lt (Nat.le_of_eq g_bt.symm))
  have ne_bs_bt : bs ≠ bt := Nat.ne_of_lt (Nat.lt_of_lt_of_le V_bs.lt (Nat.le_of_eq g_bt.symm))
  have ne_bp_bt : bp ≠ bt := Nat.ne_of_lt (Nat.lt_of_lt_of_le V_bp.lt (Nat.le_of_eq g_bt.symm))
  have ne_bo_bt : bo ≠ bt := Nat.ne_of_lt (Nat.lt_of_lt_of_le V_bo.lt (Nat.le_of_eq g_bt.symm))
  have ne_bf_bt : bf ≠ bt := Nat.ne_of_lt (Nat.lt_of_lt_of_le V_bf.lt (Nat.le_of_eq g_bt.symm))
  have ne_s_bt : s ≠ bt := Nat.ne_of_lt (Nat.lt_of_lt_of_le E_s.lt (Nat.le_of_eq g_bt.symm))
  have ne_m_bt : m ≠ bt := Nat.ne_of_lt (Nat.lt_of_lt_of_le E_m.lt (Nat.le_of_eq g_bt.symm))
  have le_n0_bt : n0 ≤ bt := Nat.le_trans Z0 (Nat.le_of_eq g_bt.symm)
  have le_hh_bt : h0.size ≤ bt := Nat.le_trans Z1 (Nat.le_of_eq g_bt.symm)
  have Z0 := Nat.le_trans Z0 E_13.1
  have Z1 := Nat.le_trans Z1 E_13.1
  have K0 := K0.ext E_13
  have F_subjects_t := F_subjects_t.ext E_13
  have F_predicates_t := F_predicates_t.ext E_13
  have F_objects_t := F_objects_t.ext E_13
  have F_firstGraphs_t := F_firstGraphs_t.ext E_13
  have F_table_t := F_table_t.ext E_13
  have F_otherGraphs_t := F_otherGraphs_t.ext E_13
  have F_size_t := F_size_t.ext E_13
  have E_t := E_t.ext E_13
  have V_bs := V_bs.ext E_13
  have V_bp := V_bp.ext E_13
  have V_bo := V_bo.ext E_13
  have V_bf := V_bf.ext E_13
  have E_s := E_s.ext E_13
  have F_map_s := F_map_s.ext E_13
  have E_m := E_m.ext E_13
  have F_size_m := F_size_m.ext E_13
  have F_keySet_m := F_keySet_m.ext E_13
  have F_head_m := F_head_m.ext E_13
  have F_modCount_m := F_modCount_m.ext E_13
  have V_bt : Arv Z h_13 bt k_bt .int (2048 : Int32) [] (.int (0 : Int32)) := Arv.new A_13 (by decide)
  refine hst st_13 ?_
  show G (T_13.setTop (mkF mI 57 #[.val (.ref t)] [(.ref bt), (.ref t)]))
  obtain ⟨T_14, h_14, X_14, e_14, W_14, st_14⟩ := putF X_13 hx hZ hown (host := "") (Or.inl (own_w116 hw)) Via.refl e_13 F_table_t E_t (Or.inl (own_w117 hw)) (own_w30 hw) (ty := (.array .int)) (by decide) rfl rfl (g := (mkF mI 57 #[.val (.ref t)] [(.ref bt), (.ref t)])) rfl rfl (hb hby dtt_57)
  have Z0 := Nat.le_trans Z0 (Keep.of_wr W_14).1
  have Z1 := Nat.le_trans Z1 (Keep.of_wr W_14).1
  have K0 := K0.wr W_14 (Or.inl (List.mem_of_getElem? (i := 0) rfl))
  have F_subjects_t := F_subjects_t.other W_14 (Or.inr (slot_ne (Or.inl (own_w38 hw)) (Or.inl (own_w117 hw)) (by decide) (t := (.array .int)) (t' := (.array .int)) (by decide) (by decide)))
  have F_predicates_t := F_predicates_t.other W_14 (Or.inr (slot_ne (Or.inl (own_w40 hw)) (Or.inl (own_w117 hw)) (by decide) (t := (.array .int)) (t' := (.array .int)) (by decide) (by decide)))
  have F_objects_t := F_objects_t.other W_14 (Or.inr (slot_ne (Or.inl (own_w42 hw)) (Or.inl (own_w117 hw)) (by decide) (t := (.array .int)) (t' := (.array .int)) (by decide) (by decide)))
  have F_firstGraphs_t := F_firstGraphs_t.other W_14 (Or.inr (slot_ne (Or.inl (own_w44 hw)) (Or.inl (own_w117 hw)) (by decide) (t := (.array .int)) (t' := (.array .int)) (by decide) (by decide)))
  have F_table_t := F_table_t.same W_14
  have F_otherGraphs_t := F_otherGraphs_t.other W_14 (Or.inr (slot_ne (Or.inr (own_w115 hw)) (Or.inl (own_w117 hw)) (by decide) (t := (.object "java/util/Set")) (t' := (.array .int)) (by decide) (by decide)))
  have F_size_t := F_size_t.other W_14 (Or.inr (slot_ne (Or.inl (own_w130 hw)) (Or.inl (own_w117 hw)) (by decide) (t := .int) (t' := (.array .int)) (by decide) (by decide)))
  have E_t := E_t.wr W_14
  have V_bs := V_bs.other W_14 (Ne.symm ne_t_bs)
  have V_bp := V_bp.other W_14 (Ne.symm ne_t_bp)
  have V_bo := V_bo.other W_14 (Ne.symm ne_t_bo)
  have V_bf := V_bf.other W_14 (Ne.symm ne_t_bf)
  have E_s := E_s.wr W_14
  have F_map_s := F_map_s.other W_14 (Or.inl (Ne.symm ne_t_s))
  have E_m := E_m.wr W_14
  have F_size_m := F_size_m.other W_14 (Or.inl ne_m_t)
  have F_keySet_m := F_keySet_m.other W_14 (Or.inl ne_m_t)
  have F_head_m := F_head_m.other W_14 (Or.inl ne_m_t)
  have F_modCount_m := F_modCount_m.other W_14 (Or.inl ne_m_t)
  have V_bt := V_bt.other W_14 (Ne.symm ne_t_bt)
  have N_14 := Fr.snoc X_14 N_12 le_n0_t
  refine hst st_14 ?_
  show G (T_14.setTop (mkF mI 60 #[.val (.ref t)] []))
  exact hend (own_goVoid X_14 hx Bd.returns (hb hby dtt_60) Bd.notSynchronized (by rw [e_14]; exact ⟨rfl, N_14, K0, s, m, bs, bp, bo, bf, bt, k_bs, k_bp, k_bo, k_bf, k_bt, ⟨le_hh_s, le_hh_m, le_hh_bs, le_hh_bp, le_hh_bo, le_hh_bf, le_hh_bt⟩, ne_bs_bp, ne_bs_bo, ne_bs_bf, ne_bs_bt, ne_bp_bo, ne_bp_bf, ne_bp_bt, ne_bo_bf, ne_bo_bt, ne_bf_bt, E_t, F_subjects_t, F_predicates_t, F_objects_t, F_firstGraphs_t, F_table_t, F_otherGraphs_t, F_size_t, E_s, F_map_s, E_m, F_size_m, F_keySet_m, F_head_m, F_modCount_m, V_bs, V_bp, V_bo, V_bf, V_bt⟩) (by decide) (by decide))
theorem dmn0_0 : decode jdk_29_method_69_code 0 = .ok (.iload_n 0, 1) := by decide +kernel
theorem dmn0_1 : decode jdk_29_method_69_code 1 = .ok (.iload_n 1, 1) := by decide +kernel
theorem dmn0_2 : decode jdk_29_method_69_code 2 = .ok (.if_icmp .gt 7, 3) := by decide +kernel
theorem dmn0_9 : decode jdk_29_method_69_code 9 = .ok (.iload_n 1, 1) := by decide +kernel
theorem dmn0_10 : decode jdk_29_method_69_code 10 = .ok (.ireturn, 1) := by decide +kernel
theorem ef_mn0 (mI : MethodId)  : entryFrame mI #[(.int (1024 : Int32)), (.int (0 : Int32))] 2 = mkF mI 0 #[.val (.int (1024 : Int32)), .val (.int (0 : Int32))] [] := by first | (simp [entryFrame, mkF, argsToLocals, Value.category]; done) | rfl
set_option maxRecDepth 65536 in
set_option maxHeartbeats 40000000 in
theorem rmmn0 (lL : Launch) (Z : State) (a0 : Array Value) (hw : ∀ d ∈ tables_1, d.before a0 Z = true) (ws : List Jvm.Cond)  (h0 : Heap) (n0 : Nat) (Z0 : n0 ≤ h0.size) :
    MetFree lL (⟨"java/lang/Math", "min", "(II)I"⟩ : MethodName) (head1 (Jvm.Cond.code (⟨"java/lang/Math", "min", "(II)I"⟩ : MethodName) jdk_29_method_69_code 2 (some .int) :: ws) ({ frames := 0, cells := 0, slots := 0, locals := 0 } : Room)) (fun a_ U_ => a_ = #[(.int (1024 : Int32)), (.int (0 : Int32))] ∧ Z.Warmed39 U_.vm ∧ U_.heap = h0) (fun _ _ _ _ _ => True) (fun _ U_ o_ W_ => ∃ v_ L_, o_ = .returned v_ ∧ own_QI (0 : Int32) h0 n0 v_ W_.heap L_ ∧ FrameEnd U_ o_ W_ L_ ({ frames := 0, cells := 0, slots := 0, locals := 0 } : Room).cells ({ frames := 0, cells := 0, slots := 0, locals := 0 } : Room).slots) := by
  refine MetFree.of_bodySF (Jvm.Free.JP.mathPlain rfl (by decide +kernel)) hisR ?_
  intro pP eE sS mI args below meth cC s₁ Bd hml0 hP hK
  obtain ⟨rfl, hZ, hh⟩ := hP
  have hx := Bd.exec
  have hby := Bd.bytes
  have hml : cC.maxLocals = 2 := hml0
  have hown : sS.vm.findClass "java/lang/Math" = some mI.cls := by have z := findClass_of_methodNamed Bd.named; exact z
  have hnm := (name_of_methodNamed Bd.named Bd.method).1
  have X0 : Stand pP lL eE ({ frames := 0, cells := 0, slots := 0, locals := 0 } : Room) sS mI #[(.int (1024 : Int32)), (.int (0 : Int32))] below meth cC s₁ [] 0 0 := Stand.of_body Bd
  have e0 : s₁.heap = h0 := by rw [← hh, Bd.state]; rfl
  have N0 := Fr.nil n0
  obtain ⟨G, hG, hst, hend⟩ := own_abs pP eE below sS (own_QI (0 : Int32) h0 n0) ({ frames := 0, cells := 0, slots := 0, locals := 0 } : Room).cells ({ frames := 0, cells := 0, slots := 0, locals := 0 } : Room).slots
  refine hG (S := s₁.setTop (entryFrame mI #[(.int (1024 : Int32)), (.int (0 : Int32))] 2)) (hst (fun t_ kt_ => castTop (ef_mn0 mI ) kt_) ?_)
  show G (s₁.setTop (mkF mI 0 #[.val (.int (1024 : Int32)), .val (.int (0 : Int32))] []))
  refine o_iloadN hst X0.here hx (hb hby dmn0_0) (pc' := 1) rfl rfl ?_
  refine o_iloadN hst X0.here hx (hb hby dmn0_1) (pc' := 2) rfl rfl ?_
  have hc2 : (0 : Int32) < (1024 : Int32) := by decide
  refine hst (fun _ kt => XS.icmpYes X0.here hx rfl (pc0 := 2) (pc' := 9) rfl (hb hby dmn0_2) rfl (tlt hc2).2.2.1 (by decide) (by decide) kt) ?_
  show G (s₁.setTop (mkF mI 9 #[.val (.int (1024 : Int32)), .val (.int (0 : Int32))] []))
  refine o_iloadN hst X0.here hx (hb hby dmn0_9) (pc' := 10) rfl rfl ?_
  exact hend (own_goRet X0 hx Bd.returns rfl (Or.inl ⟨rfl, by simp, _, rfl⟩) (hb hby dmn0_10) Bd.notSynchronized (by rw [e0]; exact ⟨rfl, N0, rfl⟩) (by decide) (by decide))
def own_Qco (Z : State) (k : Int32) (us : List Value) (h0 : Heap) (n0 : Nat) (v : Option Value) (h : Heap) (L : List Loc) : Prop := ∃ (c : Addr) (kc : ClassId), v = some (.ref c) ∧ Fr n0 L ∧ Keep h0 h [] ∧ h0.size ≤ c ∧ Arv Z h c kc .int k us (.int (0 : Int32))
theorem dco0_0 : decode jdk_65_method_123_code 0 = .ok (.iload_n 1, 1) := by decide +kernel
theorem dco0_1 : decode jdk_65_method_123_code 1 = .ok (.aload_n 0, 1) := by decide +kernel
theorem dco0_2 : decode jdk_65_method_123_code 2 = .ok (.arraylength, 1) := by decide +kernel
theorem dco0_3 : decode jdk_65_method_123_code 3 = .ok (.if_icmp .ne 11, 3) := by decide +kernel
theorem dco0_14 : decode jdk_65_method_123_code 14 = .ok (.iload_n 1, 1) := by decide +kernel
theorem dco0_15 : decode jdk_65_method_123_code 15 = .ok (.newarray .int, 2) := by decide +kernel
theorem dco0_17 : decode jdk_65_method_123_code 17 = .ok (.astore_n 2, 1) := by decide +kernel
theorem dco0_18 : decode jdk_65_method_123_code 18 = .ok (.aload_n 0, 1) := by decide +kernel
theorem dco0_19 : decode jdk_65_method_123_code 19 = .ok (.iconst 0, 1) := by decide +kernel
theorem dco0_20 : decode jdk_65_method_123_code 20 = .ok (.aload_n 2, 1) := by decide +kernel
theorem dco0_21 : decode jdk_65_method_123_code 21 = .ok (.iconst 0, 1) := by decide +kernel
theorem dco0_22 : decode jdk_65_method_123_code 22 = .ok (.aload_n 0, 1) := by decide +kernel
theorem dco0_23 : decode jdk_65_method_123_code 23 = .ok (.arraylength, 1) := by decide +kernel
theorem dco0_24 : decode jdk_65_method_123_code 24 = .ok (.iload_n 1, 1) := by decide +kernel
theorem dco0_25 : decode jdk_65_method_123_code 25 = .ok (.invokestatic 304, 3) := by decide +kernel
theorem dco0_28 : decode jdk_65_method_123_code 28 = .ok (.invokestatic 150, 3) := by decide +kernel
theorem dco0_31 : decode jdk_65_method_123_code 31 = .ok (.aload_n 2, 1) := by decide +kernel
theorem dco0_32 : decode jdk_65_method_123_code 32 = .ok (.areturn, 1) := by decide +kernel
theorem ef_co0 (mI : MethodId) (b : Addr) : entryFrame mI #[(.ref b), (.int (0 : Int32))] 3 = mkF mI 0 #[.val (.ref b), .val (.int (0 : Int32)), .unset] [] := by first | (simp [entryFrame, mkF, argsToLocals, Value.category]; done) | rfl
theorem pn_co0 : plainName "java/util/Arrays" = true := by first | decide +kernel | (simp [plainName, overriddenIn]; done)
set_option maxRecDepth 65536 in
set_option maxHeartbeats 40000000 in
theorem rmco0 (lL : Launch) (Z : State) (a0 : Array Value) (hw : ∀ d ∈ tables_1, d.before a0 Z = true) (ws : List Jvm.Cond) (b : Addr) (kb : ClassId) (h0 : Heap) (n0 : Nat) (Z0 : n0 ≤ h0.size) (V_b : Arv Z h0 b kb .int (1024 : Int32) [] (.int (0 : Int32))) :
    MetFree lL (⟨"java/util/Arrays", "copyOf", "([II)[I"⟩ : MethodName) (head1 (Jvm.Cond.code (⟨"java/util/Arrays", "copyOf", "([II)[I"⟩ : MethodName) jdk_65_method_123_code 3 (some (.array .int)) :: ws) ({ frames := 1, cells := 1, slots := 0, locals := 48 } : Room)) (fun a_ U_ => a_ = #[(.ref b), (.int (0 : Int32))] ∧ Z.Warmed39 U_.vm ∧ U_.heap = h0) (fun _ _ _ _ _ => True) (fun _ U_ o_ W_ => ∃ v_ L_, o_ = .returned v_ ∧ own_Qco Z (0 : Int32) [] h0 n0 v_ W_.heap L_ ∧ FrameEnd U_ o_ W_ L_ ({ frames := 1, cells := 1, slots := 0, locals := 48 } : Room).cells ({ frames := 1, cells := 1, slots := 0, locals := 48 } : Room).slots) := by
  refine MetFree.of_bodySF (plainFor_of_name pn_co0) hisR ?_
  intro pP eE sS mI args below meth cC s₁ Bd hml0 hP hK
  obtain ⟨rfl, hZ, hh⟩ := hP
  have hx := Bd.exec
  have hby := Bd.bytes
  have hml : cC.maxLocals = 3 := hml0
  have hown : sS.vm.findClass "java/util/Arrays" = some mI.cls := by have z := findClass_of_methodNamed Bd.named; exact z
  have hnm := (name_of_methodNamed Bd.named Bd.method).1
  have X0 : Stand pP lL eE ({ frames := 1, cells := 1, slots := 0, locals := 48 } : Room) sS mI #[(.ref b), (.int (0 : Int32))] below meth cC s₁ [] 0 0 := Stand.of_body Bd
  have e0 : s₁.heap = h0 := by rw [← hh, Bd.state]; rfl
  have N0 := Fr.nil n0
  obtain ⟨G, hG, hst, hend⟩ := own_abs pP eE below sS (own_Qco Z (0 : Int32) [] h0 n0) ({ frames := 1, cells := 1, slots := 0, locals := 48 } : Room).cells ({ frames := 1, cells := 1, slots := 0, locals := 48 } : Room).slots
  refine hG (S := s₁.setTop (entryFrame mI #[(.ref b), (.int (0 : Int32))] 3)) (hst (fun t_ kt_ => castTop (ef_co0 mI b) kt_) ?_)
  have Z1 := Nat.le_refl h0.size
  have K0 := Keep.refl h0 []
  show G (s₁.setTop (mkF mI 0 #[.val (.ref b), .val (.int (0 : Int32)), .unset] []))
  refine o_iloadN hst X0.here hx (hb hby dco0_0) (pc' := 1) rfl rfl ?_
  refine o_aloadN hst X0.here hx (hb hby dco0_1) (pc' := 2) rfl rfl rfl ?_
  obtain ⟨cl_1, Ar_1, -, S_1, M_1, -, -⟩ := id V_b
  refine hst (X0.arraylength hx (by rw [e0]; exact Ar_1.1) (State.isArrayOf_alike hZ.alike Ar_1.2.1) (g := (mkF mI 2 #[.val (.ref b), .val (.int (0 : Int32)), .unset] [(.ref b), (.int (0 : Int32))])) rfl rfl (hb hby dco0_2)) ?_
  rw [len_of S_1 M_1]
  show G (s₁.setTop (mkF mI 3 #[.val (.ref b), .val (.int (0 : Int32)), .unset] [(.int (1024 : Int32)), (.int (0 : Int32))]))
  have hc3 : ¬ ((0 : Int32) = (1024 : Int32)) := by decide
  refine hst (fun _ kt => XS.icmpYes X0.here hx rfl (pc0 := 3) (pc' := 14) rfl (hb hby dco0_3) rfl (feq hc3).2 (by decide) (by decide) kt) ?_
  show G (s₁.setTop (mkF mI 14 #[.val (.ref b), .val (.int (0 : Int32)), .unset] []))
  refine o_iloadN hst X0.here hx (hb hby dco0_14) (pc' := 15) rfl rfl ?_
  obtain ⟨T_2, h_2, k_c, X_2, e_2, E_2, A_2, st_2⟩ := newP (aty := .int) X0 hx hZ (own_w36 hw) e0 (g := (mkF mI 15 #[.val (.ref b), .val (.int (0 : Int32)), .unset] [(.int (0 : Int32))])) rfl (hb hby dco0_15) rfl (by decide) (cap := 0) (by decide) (by decide) (by decide) (by decide)
  obtain ⟨c, g_c⟩ : ∃ z, z = h0.size := ⟨_, rfl⟩
  rw [← g_c] at A_2 st_2
  have ne_b_c : b ≠ c := Nat.ne_of_lt (Nat.lt_of_lt_of_le V_b.lt (Nat.le_of_eq g_c.symm))
  have le_n0_c : n0 ≤ c := Nat.le_trans Z0 (Nat.le_of_eq g_c.symm)
  have le_hh_c : h0.size ≤ c := Nat.le_trans Z1 (Nat.le_of_eq g_c.symm)
  have Z0 := Nat.le_trans Z0 E_2.1
  have Z1 := Nat.le_trans Z1 E_2.1
  have K0 := K0.ext E_2
  have V_b := V_b.ext E_2
  have V_c : Arv Z h_2 c k_c .int (0 : Int32) [] (.int (0 : Int32)) := Arv.new A_2 (by decide)
  refine hst st_2 ?_
  show G (T_2.setTop (mkF mI 17 #[.val (.ref b), .val (.int (0 : Int32)), .unset] [(.ref c)]))
  refine o_astoreN hst X_2.here hx (hb hby dco0_17) (pc' := 18) rfl (Lt := #[.val (.ref b), .val (.int (0 : Int32)), .val (.ref c)]) rfl rfl ?_
  refine o_aloadN hst X_2.here hx (hb hby dco0_18) (pc' := 19) rfl rfl rfl ?_
  refine o_iconst hst X_2.here hx (hb hby dco0_19) (pc' := 20) rfl (z := (0 : Int32)) rfl ?_
  refine o_aloadN hst X_2.here hx (hb hby dco0_20) (pc' := 21) rfl rfl rfl ?_
  refine o_iconst hst X_2.here hx (hb hby dco0_21) (pc' := 22) rfl (z := (0 : Int32)) rfl ?_
  refine o_aloadN hst X_2.here hx (hb hby dco0_22) (pc' := 23) rfl rfl rfl ?_
  obtain ⟨cl_3, Ar_3, -, S_3, M_3, -, -⟩ := id V_b
  refine hst (X_2.arraylength hx (by rw [e_2]; exact Ar_3.1) (State.isArrayOf_alike hZ.alike Ar_3.2.1) (g := (mkF mI 23 #[.val (.ref b), .val (.int (0 : Int32)), .val (.ref c)] [(.ref b), (.int (0 : Int32)), (.ref c), (.int (0 : Int32)), (.ref b)])) rfl rfl (hb hby dco0_23)) ?_
  rw [len_of S_3 M_3]
  show G (T_2.setTop (mkF mI 24 #[.val (.ref b), .val (.int (0 : Int32)), .val (.ref c)] [(.int (1024 : Int32)), (.int (0 : Int32)), (.ref c), (.int (0 : Int32)), (.ref b)]))
  refine o_iloadN hst X_2.here hx (hb hby dco0_24) (pc' := 25) rfl rfl ?_
  obtain ⟨_, _, ⟨T_4, L_4, k_4, n_4⟩, -, X_4, ⟨Lc_4, hQ_4, l_4, y_4, z_4⟩, st_4⟩ := Jvm.LawKit.callS X_2 hx (y := (⟨"java/lang/Math", "min", "(II)I"⟩ : MethodName)) hown (mvT hZ (own_w171 hw)) (mvT hZ (own_w172 hw)) (mvT hZ (own_w173 hw)) (mvT hZ (own_w174 hw)) (by decide) (backOf (W := 4) (rmmn0 lL Z a0 hw []   h_2 n0 Z0) hZ (own_w174 hw) (own_w173 hw) (by decide) (by decide)) (g := (mkF mI 25 #[.val (.ref b), .val (.int (0 : Int32)), .val (.ref c)] [(.int (0 : Int32)), (.int (1024 : Int32)), (.int (0 : Int32)), (.ref c), (.int (0 : Int32)), (.ref b)])) rfl (by rw [hml]; rfl) (argsL := [(.int (1024 : Int32)), (.int (0 : Int32))]) (rest := [(.int (0 : Int32)), (.ref c), (.int (0 : Int32)), (.ref b)]) (lenOf pd_5 rfl) rfl (by show 2 * 0 + _ ≤ _; exact Nat.le_of_eq rfl) (hb hby dco0_25) (fun _ _ => ⟨rfl, e_2, (by decide : 1 + 0 ≤ _), (by decide : 0 + 0 ≤ _)⟩)
  dsimp only [Pt.U, Pt.locs, Pt.cells, Pt.slots] at X_4 l_4 y_4 z_4 st_4 hQ_4
  subst l_4 y_4 z_4
  obtain ⟨rfl, N_4q, eh_4⟩ := hQ_4
  have N_4 := Fr.app N0 N_4q
  refine hst (fun _ kt => st_4 _ kt) ?_
  show G (T_4.setTop (mkF mI 28 #[.val (.ref b), .val (.int (0 : Int32)), .val (.ref c)] [(.int (0 : Int32)), (.int (0 : Int32)), (.ref c), (.int (0 : Int32)), (.ref b)]))
  obtain ⟨T_5, h_5, L_5, X_5, e_5, N_5, Kc_5, Vc_5, st_5⟩ := cpA X_4 hx hZ hown (own_w175 hw) (own_w178 hw) (own_w176 hw) (own_w177 hw) eh_4 V_b V_c (us := []) (Or.inl ⟨rfl, rfl⟩) (by decide) (by decide) (by decide) (by decide) (by decide) rfl (by decide) N_4 le_n0_c (g := (mkF mI 28 #[.val (.ref b), .val (.int (0 : Int32)), .val (.ref c)] [(.int (0 : Int32)), (.int (0 : Int32)), (.ref c), (.int (0 : Int32)), (.ref b)])) rfl (by rw [hml]; rfl) rfl (hb hby dco0_28) (by decide) (W := 0) (by show 2 * 0 + _ ≤ _; exact Nat.le_of_eq rfl) (by decide)
  have Z0 := Nat.le_trans Z0 Kc_5.1
  have Z1 := Nat.le_trans Z1 Kc_5.1
  have K0 := K0.trans Kc_5 (allS (Or.inr le_hh_c) all0)
  have V_b := V_b.keep Kc_5 (ninS ne_b_c nin0)
  have V_c : Arv Z h_5 c k_c .int (0 : Int32) [] (.int (0 : Int32)) := Vc_5
  refine hst st_5 ?_
  show G (T_5.setTop (mkF mI 31 #[.val (.ref b), .val (.int (0 : Int32)), .val (.ref c)] []))
  refine o_aloadN hst X_5.here hx (hb hby dco0_31) (pc' := 32) rfl rfl rfl ?_
  exact hend (own_goRet X_5 hx Bd.returns rfl (Or.inr (Or.inr (Or.inr (Or.inr ⟨rfl, rfl, rfl⟩)))) (hb hby dco0_32) Bd.notSynchronized (by rw [e_5]; exact ⟨c, k_c, rfl, N_5, K0, le_hh_c, V_c⟩) (by decide) (by decide))
theorem dmn3_0 : decode jdk_29_method_69_code 0 = .ok (.iload_n 0, 1) := by decide +kernel
theorem dmn3_1 : decode jdk_29_method_69_code 1 = .ok (.iload_n 1, 1) := by decide +kernel
theorem dmn3_2 : decode jdk_29_method_69_code 2 = .ok (.if_icmp .gt 7, 3) := by decide +kernel
theorem dmn3_9 : decode jdk_29_method_69_code 9 = .ok (.iload_n 1, 1) := by decide +kernel
theorem dmn3_10 : decode jdk_29_method_69_code 10 = .ok (.ireturn, 1) := by decide +kernel
theorem ef_mn3 (mI : MethodId)  : entryFrame mI #[(.int (1024 : Int32)), (.int (3 : Int32))] 2 = mkF mI 0 #[.val (.int (1024 : Int32)), .val (.int (3 : Int32))] [] := by first | (simp [entryFrame, mkF, argsToLocals, Value.category]; done) | rfl
set_option maxRecDepth 65536 in
set_option maxHeartbeats 40000000 in
theorem rmmn3 (lL : Launch) (Z : State) (a0 : Array Value) (hw : ∀ d ∈ tables_1, d.before a0 Z = true) (ws : List Jvm.Cond)  (h0 : Heap) (n0 : Nat) (Z0 : n0 ≤ h0.size) :
    MetFree lL (⟨"java/lang/Math", "min", "(II)I"⟩ : MethodName) (head1 (Jvm.Cond.code (⟨"java/lang/Math", "min", "(II)I"⟩ : MethodName) jdk_29_method_69_code 2 (some .int) :: ws) ({ frames := 0, cells := 0, slots := 0, locals := 0 } : Room)) (fun a_ U_ => a_ = #[(.int (1024 : Int32)), (.int (3 : Int32))] ∧ Z.Warmed39 U_.vm ∧ U_.heap = h0) (fun _ _ _ _ _ => True) (fun _ U_ o_ W_ => ∃ v_ L_, o_ = .returned v_ ∧ own_QI (3 : Int32) h0 n0 v_ W_.heap L_ ∧ FrameEnd U_ o_ W_ L_ ({ frames := 0, cells := 0, slots := 0, locals := 0 } : Room).cells ({ frames := 0, cells := 0, slots := 0, locals := 0 } : Room).slots) := by
  refine MetFree.of_bodySF (Jvm.Free.JP.mathPlain rfl (by decide +kernel)) hisR ?_
  intro pP eE sS mI args below meth cC s₁ Bd hml0 hP hK
  obtain ⟨rfl, hZ, hh⟩ := hP
  have hx := Bd.exec
  have hby := Bd.bytes
  have hml : cC.maxLocals = 2 := hml0
  have hown : sS.vm.findClass "java/lang/Math" = some mI.cls := by have z := findClass_of_methodNamed Bd.named; exact z
  have hnm := (name_of_methodNamed Bd.named Bd.method).1
  have X0 : Stand pP lL eE ({ frames := 0, cells := 0, slots := 0, locals := 0 } : Room) sS mI #[(.int (1024 : Int32)), (.int (3 : Int32))] below meth cC s₁ [] 0 0 := Stand.of_body Bd
  have e0 : s₁.heap = h0 := by rw [← hh, Bd.state]; rfl
  have N0 := Fr.nil n0
  obtain ⟨G, hG, hst, hend⟩ := own_abs pP eE below sS (own_QI (3 : Int32) h0 n0) ({ frames := 0, cells := 0, slots := 0, locals := 0 } : Room).cells ({ frames := 0, cells := 0, slots := 0, locals := 0 } : Room).slots
  refine hG (S := s₁.setTop (entryFrame mI #[(.int (1024 : Int32)), (.int (3 : Int32))] 2)) (hst (fun t_ kt_ => castTop (ef_mn3 mI ) kt_) ?_)
  show G (s₁.setTop (mkF mI 0 #[.val (.int (1024 : Int32)), .val (.int (3 : Int32))] []))
  refine o_iloadN hst X0.here hx (hb hby dmn3_0) (pc' := 1) rfl rfl ?_
  refine o_iloadN hst X0.here hx (hb hby dmn3_1) (pc' := 2) rfl rfl ?_
  have hc2 : (3 : Int32) < (1024 : Int32) := by decide
  refine hst (fun _ kt => XS.icmpYes X0.here hx rfl (pc0 := 2) (pc' := 9) rfl (hb hby dmn3_2) rfl (tlt hc2).2.2.1 (by decide) (by decide) kt) ?_
  show G (s₁.setTop (mkF mI 9 #[.val (.int (1024 : Int32)), .val (.int (3 : Int32))] []))
  refine o_iloadN hst X0.here hx (hb hby dmn3_9) (pc' := 10) rfl rfl ?_
  exact hend (own_goRet X0 hx Bd.returns rfl (Or.inl ⟨rfl, by simp, _, rfl⟩) (hb hby dmn3_10) Bd.notSynchronized (by rw [e0]; exact ⟨rfl, N0, rfl⟩) (by decide) (by decide))
theorem dco3_0 : decode jdk_65_method_123_code 0 = .ok (.iload_n 1, 1) := by decide +kernel
theorem dco3_1 : decode jdk_65_method_123_code 1 = .ok (.aload_n 0, 1) := by decide +kernel
theorem dco3_2 : decode jdk_65_method_123_code 2 = .ok (.arraylength, 1) := by decide +kernel
theorem dco3_3 : decode jdk_65_method_123_code 3 = .ok (.if_icmp .ne 11, 3) := by decide +kernel
theorem dco3_14 : decode jdk_65_method_123_code 14 = .ok (.iload_n 1, 1) := by decide +kernel
theorem dco3_15 : decode jdk_65_method_123_code 15 = .ok (.newarray .int, 2) := by decide +kernel
theorem dco3_17 : decode jdk_65_method_123_code 17 = .ok (.astore_n 2, 1) := by decide +kernel
theorem dco3_18 : decode jdk_65_method_123_code 18 = .ok (.aload_n 0, 1) := by decide +kernel
theorem dco3_19 : decode jdk_65_method_123_code 19 = .ok (.iconst 0, 1) := by decide +kernel
theorem dco3_20 : decode jdk_65_method_123_code 20 = .ok (.aload_n 2, 1) := by decide +kernel
theorem dco3_21 : decode jdk_65_method_123_code 21 = .ok (.iconst 0, 1) := by decide +kernel
theorem dco3_22 : decode jdk_65_method_123_code 22 = .ok (.aload_n 0, 1) := by decide +kernel
theorem dco3_23 : decode jdk_65_method_123_code 23 = .ok (.arraylength, 1) := by decide +kernel
theorem dco3_24 : decode jdk_65_method_123_code 24 = .ok (.iload_n 1, 1) := by decide +kernel
theorem dco3_25 : decode jdk_65_method_123_code 25 = .ok (.invokestatic 304, 3) := by decide +kernel
theorem dco3_28 : decode jdk_65_method_123_code 28 = .ok (.invokestatic 150, 3) := by decide +kernel
theorem dco3_31 : decode jdk_65_method_123_code 31 = .ok (.aload_n 2, 1) := by decide +kernel
theorem dco3_32 : decode jdk_65_method_123_code 32 = .ok (.areturn, 1) := by decide +kernel
theorem ef_co3 (mI : MethodId) (b : Addr) : entryFrame mI #[(.ref b), (.int (3 : Int32))] 3 = mkF mI 0 #[.val (.ref b), .val (.int (3 : Int32)), .unset] [] := by first | (simp [entryFrame, mkF, argsToLocals, Value.category]; done) | rfl
theorem pn_co3 : plainName "java/util/Arrays" = true := by first | decide +kernel | (simp [plainName, overriddenIn]; done)
set_option maxRecDepth 65536 in
set_option maxHeartbeats 40000000 in
theorem rmco3 (lL : Launch) (Z : State) (a0 : Array Value) (hw : ∀ d ∈ tables_1, d.before a0 Z = true) (ws : List Jvm.Cond) (b : Addr) (kb : ClassId) (z0 : Int32) (z1 : Int32) (z2 : Int32) (h0 : Heap) (n0 : Nat) (Z0 : n0 ≤ h0.size) (V_b : Arv Z h0 b kb .int (1024 : Int32) [(.int z0), (.int z1), (.int z2)] (.int (0 : Int32))) :
    MetFree lL (⟨"java/util/Arrays", "copyOf", "([II)[I"⟩ : MethodName) (head1 (Jvm.Cond.code (⟨"java/util/Arrays", "copyOf", "([II)[I"⟩ : MethodName) jdk_65_method_123_code 3 (some (.array .int)) :: ws) ({ frames := 1, cells := 1, slots := 3, locals := 48 } : Room)) (fun a_ U_ => a_ = #[(.ref b), (.int (3 : Int32))] ∧ Z.Warmed39 U_.vm ∧ U_.heap = h0) (fun _ _ _ _ _ => True) (fun _ U_ o_ W_ => ∃ v_ L_, o_ = .returned v_ ∧ own_Qco Z (3 : Int32) [(.int z0), (.int z1), (.int z2)] h0 n0 v_ W_.heap L_ ∧ FrameEnd U_ o_ W_ L_ ({ frames := 1, cells := 1, slots := 3, locals := 48 } : Room).cells ({ frames := 1, cells := 1, slots := 3, locals := 48 } : Room).slots) := by
  refine MetFree.of_bodySF (plainFor_of_name pn_co3) hisR ?_
  intro pP eE sS mI args below meth cC s₁ Bd hml0 hP hK
  obtain ⟨rfl, hZ, hh⟩ := hP
  have hx := Bd.exec
  have hby := Bd.bytes
  have hml : cC.maxLocals = 3 := hml0
  have hown : sS.vm.findClass "java/util/Arrays" = some mI.cls := by have z := findClass_of_methodNamed Bd.named; exact z
  have hnm := (name_of_methodNamed Bd.named Bd.method).1
  have X0 : Stand pP lL eE ({ frames := 1, cells := 1, slots := 3, locals := 48 } : Room) sS mI #[(.ref b), (.int (3 : Int32))] below meth cC s₁ [] 0 0 := Stand.of_body Bd
  have e0 : s₁.heap = h0 := by rw [← hh, Bd.state]; rfl
  have N0 := Fr.nil n0
  obtain ⟨G, hG, hst, hend⟩ := own_abs pP eE below sS (own_Qco Z (3 : Int32) [(.int z0), (.int z1), (.int z2)] h0 n0) ({ frames := 1, cells := 1, slots := 3, locals := 48 } : Room).cells ({ frames := 1, cells := 1, slots := 3, locals := 48 } : Room).slots
  refine hG (S := s₁.setTop (entryFrame mI #[(.ref b), (.int (3 : Int32))] 3)) (hst (fun t_ kt_ => castTop (ef_co3 mI b) kt_) ?_)
  have Z1 := Nat.le_refl h0.size
  have K0 := Keep.refl h0 []
  show G (s₁.setTop (mkF mI 0 #[.val (.ref b), .val (.int (3 : Int32)), .unset] []))
  refine o_iloadN hst X0.here hx (hb hby dco3_0) (pc' := 1) rfl rfl ?_
  refine o_aloadN hst X0.here hx (hb hby dco3_1) (pc' := 2) rfl rfl rfl ?_
  obtain ⟨cl_1, Ar_1, -, S_1, M_1, -, -⟩ := id V_b
  refine hst (X0.arraylength hx (by rw [e0]; exact Ar_1.1) (State.isArrayOf_alike hZ.alike Ar_1.2.1) (g := (mkF mI 2 #[.val (.ref b), .val (.int (3 : Int32)), .unset] [(.ref b), (.int (3 : Int32))])) rfl rfl (hb hby dco3_2)) ?_
  rw [len_of S_1 M_1]
  show G (s₁.setTop (mkF mI 3 #[.val (.ref b), .val (.int (3 : Int32)), .unset] [(.int (1024 : Int32)), (.int (3 : Int32))]))
  have hc3 : ¬ ((3 : Int32) = (1024 : Int32)) := by decide
  refine hst (fun _ kt => XS.icmpYes X0.here hx rfl (pc0 := 3) (pc' := 14) rfl (hb hby dco3_3) rfl (feq hc3).2 (by decide) (by decide) kt) ?_
  show G (s₁.setTop (mkF mI 14 #[.val (.ref b), .val (.int (3 : Int32)), .unset] []))
  refine o_iloadN hst X0.here hx (hb hby dco3_14) (pc' := 15) rfl rfl ?_
  obtain ⟨T_2, h_2, k_c, X_2, e_2, E_2, A_2, st_2⟩ := newP (aty := .int) X0 hx hZ (own_w36 hw) e0 (g := (mkF mI 15 #[.val (.ref b), .val (.int (3 : Int32)), .unset] [(.int (3 : Int32))])) rfl (hb hby dco3_15) rfl (by decide) (cap := 3) (by decide) (by decide) (by decide) (by decide)
  obtain ⟨c, g_c⟩ : ∃ z, z = h0.size := ⟨_, rfl⟩
  rw [← g_c] at A_2 st_2
  have ne_b_c : b ≠ c := Nat.ne_of_lt (Nat.lt_of_lt_of_le V_b.lt (Nat.le_of_eq g_c.symm))
  have le_n0_c : n0 ≤ c := Nat.le_trans Z0 (Nat.le_of_eq g_c.symm)
  have le_hh_c : h0.size ≤ c := Nat.le_trans Z1 (Nat.le_of_eq g_c.symm)
  have Z0 := Nat.le_trans Z0 E_2.1
  have Z1 := Nat.le_trans Z1 E_2.1
  have K0 := K0.ext E_2
  have V_b := V_b.ext E_2
  have V_c : Arv Z h_2 c k_c .int (3 : Int32) [(.int (0 : Int32)), (.int (0 : Int32)), (.int (0 : Int32))] (.int (0 : Int32)) := (Arv.new A_2 (by decide)).pad (pad_rep [] (.int (0 : Int32)) 3)
  refine hst st_2 ?_
  show G (T_2.setTop (mkF mI 17 #[.val (.ref b), .val (.int (3 : Int32)), .unset] [(.ref c)]))
  refine o_astoreN hst X_2.here hx (hb hby dco3_17) (pc' := 18) rfl (Lt := #[.val (.ref b), .val (.int (3 : Int32)), .val (.ref c)]) rfl rfl ?_
  refine o_aloadN hst X_2.here hx (hb hby dco3_18) (pc' := 19) rfl rfl rfl ?_
  refine o_iconst hst X_2.here hx (hb hby dco3_19) (pc' := 20) rfl (z := (0 : Int32)) rfl ?_
  refine o_aloadN hst X_2.here hx (hb hby dco3_20) (pc' := 21) rfl rfl rfl ?_
  refine o_iconst hst X_2.here hx (hb hby dco3_21) (pc' := 22) rfl (z := (0 : Int32)) rfl ?_
  refine o_aloadN hst X_2.here hx (hb hby dco3_22) (pc' := 23) rfl rfl rfl ?_
  obtain ⟨cl_3, Ar_3, -, S_3, M_3, -, -⟩ := id V_b
  refine hst (X_2.arraylength hx (by rw [e_2]; exact Ar_3.1) (State.isArrayOf_alike hZ.alike Ar_3.2.1) (g := (mkF mI 23 #[.val (.ref b), .val (.int (3 : Int32)), .val (.ref c)] [(.ref b), (.int (0 : Int32)), (.ref c), (.int (0 : Int32)), (.ref b)])) rfl rfl (hb hby dco3_23)) ?_
  rw [len_of S_3 M_3]
  show G (T_2.setTop (mkF mI 24 #[.val (.ref b), .val (.int (3 : Int32)), .val (.ref c)] [(.int (1024 : Int32)), (.int (0 : Int32)), (.ref c), (.int (0 : Int32)), (.ref b)]))
  refine o_iloadN hst X_2.here hx (hb hby dco3_24) (pc' := 25) rfl rfl ?_
  obtain ⟨_, _, ⟨T_4, L_4, k_4, n_4⟩, -, X_4, ⟨Lc_4, hQ_4, l_4, y_4, z_4⟩, st_4⟩ := Jvm.LawKit.callS X_2 hx (y := (⟨"java/lang/Math", "min", "(II)I"⟩ : MethodName)) hown (mvT hZ (own_w171 hw)) (mvT hZ (own_w172 hw)) (mvT hZ (own_w173 hw)) (mvT hZ (own_w174 hw)) (by decide) (backOf (W := 4) (rmmn3 lL Z a0 hw []   h_2 n0 Z0) hZ (own_w174 hw) (own_w173 hw) (by decide) (by decide)) (g := (mkF mI 25 #[.val (.ref b), .val (.int (3 : Int32)), .val (.ref c)] [(.int (3 : Int32)), (.int (1024 : Int32)), (.int (0 : Int32)), (.ref c), (.int (0 : Int32)), (.ref b)])) rfl (by rw [hml]; rfl) (argsL := [(.int (1024 : Int32)), (.int (3 : Int32))]) (rest := [(.int (0 : Int32)), (.ref c), (.int (0 : Int32)), (.ref b)]) (lenOf pd_5 rfl) rfl (by show 2 * 0 + _ ≤ _; exact Nat.le_of_eq rfl) (hb hby dco3_25) (fun _ _ => ⟨rfl, e_2, (by decide : 1 + 0 ≤ _), (by decide : 3 + 0 ≤ _)⟩)
  dsimp only [Pt.U, Pt.locs, Pt.cells, Pt.slots] at X_4 l_4 y_4 z_4 st_4 hQ_4
  subst l_4 y_4 z_4
  obtain ⟨rfl, N_4q, eh_4⟩ := hQ_4
  have N_4 := Fr.app N0 N_4q
  refine hst (fun _ kt => st_4 _ kt) ?_
  show G (T_4.setTop (mkF mI 28 #[.val (.ref b), .val (.int (3 : Int32)), .val (.ref c)] [(.int (3 : Int32)), (.int (0 : Int32)), (.ref c), (.int (0 : Int32)), (.ref b)]))
  obtain ⟨T_5, h_5, L_5, X_5, e_5, N_5, Kc_5, Vc_5, st_5⟩ := cpA X_4 hx hZ hown (own_w175 hw) (own_w178 hw) (own_w176 hw) (own_w177 hw) eh_4 V_b V_c (us := [(.int z0), (.int z1), (.int z2)]) (Or.inl ⟨rfl, rfl⟩) (by decide) (by decide) (by decide) (by decide) (by decide) rfl (by decide) N_4 le_n0_c (g := (mkF mI 28 #[.val (.ref b), .val (.int (3 : Int32)), .val (.ref c)] [(.int (3 : Int32)), (.int (0 : Int32)), (.ref c), (.int (0 : Int32)), (.ref b)])) rfl (by rw [hml]; rfl) rfl (hb hby dco3_28) (by decide) (W := 0) (by show 2 * 0 + _ ≤ _; exact Nat.le_of_eq rfl) (by decide)
  have Z0 := Nat.le_trans Z0 Kc_5.1
  have Z1 := Nat.le_trans Z1 Kc_5.1
  have K0 := K0.trans Kc_5 (allS (Or.inr le_hh_c) all0)
  have V_b := V_b.keep Kc_5 (ninS ne_b_c nin0)
  have V_c : Arv Z h_5 c k_c .int (3 : Int32) [(.int z0), (.int z1), (.int z2)] (.int (0 : Int32)) := Vc_5
  refine hst st_5 ?_
  show G (T_5.setTop (mkF mI 31 #[.val (.ref b), .val (.int (3 : Int32)), .val (.ref c)] []))
  refine o_aloadN hst X_5.here hx (hb hby dco3_31) (pc' := 32) rfl rfl rfl ?_
  exact hend (own_goRet X_5 hx Bd.returns rfl (Or.inr (Or.inr (Or.inr (Or.inr ⟨rfl, rfl, rfl⟩)))) (hb hby dco3_32) Bd.notSynchronized (by rw [e_5]; exact ⟨c, k_c, rfl, N_5, K0, le_hh_c, V_c⟩) (by decide) (by decide))
theorem dgbs0_0 : decode prog_37_method_3_code 0 = .ok (.aload_n 0, 1) := by decide +kernel
theorem dgbs0_1 : decode prog_37_method_3_code 1 = .ok (.getfield 9, 3) := by decide +kernel
theorem dgbs0_4 : decode prog_37_method_3_code 4 = .ok (.aload_n 0, 1) := by decide +kernel
theorem dgbs0_5 : decode prog_37_method_3_code 5 = .ok (.getfield 48, 3) := by decide +kernel
theorem dgbs0_8 : decode prog_37_method_3_code 8 = .ok (.invokestatic 52, 3) := by decide +kernel
theorem dgbs0_11 : decode prog_37_method_3_code 11 = .ok (.areturn, 1) := by decide +kernel
theorem ef_gbs0 (mI : MethodId) (t : Addr) : entryFrame mI #[(.ref t)] 1 = mkF mI 0 #[.val (.ref t)] [] := by first | (simp [entryFrame, mkF, argsToLocals, Value.category]; done) | rfl
theorem pn_gbs0 : plainName own_TT = true := by first | decide +kernel | (simp [plainName, overriddenIn]; done)
set_option maxRecDepth 65536 in
set_option maxHeartbeats 40000000 in
theorem rmgbs0 (lL : Launch) (Z : State) (a0 : Array Value) (hw : ∀ d ∈ tables_1, d.before a0 Z = true) (ws : List Jvm.Cond) (t : Addr) (b : Addr) (kb : ClassId) (h0 : Heap) (n0 : Nat) (Z0 : n0 ≤ h0.size) (F_subjects_t : Fld Z h0 t own_TT "subjects" "[I" (.ref b)) (F_size_t : Fld Z h0 t own_TT "size" "I" (.int (0 : Int32))) (V_b : Arv Z h0 b kb .int (1024 : Int32) [] (.int (0 : Int32))) :
    MetFree lL (⟨own_TT, "subjects", "()[I"⟩ : MethodName) (head1 (Jvm.Cond.code (⟨own_TT, "subjects", "()[I"⟩ : MethodName) prog_37_method_3_code 1 (some (.array .int)) :: ws) ({ frames := 2, cells := 1, slots := 0, locals := 62 } : Room)) (fun a_ U_ => a_ = #[(.ref t)] ∧ Z.Warmed39 U_.vm ∧ U_.heap = h0) (fun _ _ _ _ _ => True) (fun _ U_ o_ W_ => ∃ v_ L_, o_ = .returned v_ ∧ own_Qco Z (0 : Int32) [] h0 n0 v_ W_.heap L_ ∧ FrameEnd U_ o_ W_ L_ ({ frames := 2, cells := 1, slots := 0, locals := 62 } : Room).cells ({ frames := 2, cells := 1, slots := 0, locals := 62 } : Room).slots) := by
  refine MetFree.of_bodySF (plainFor_of_name pn_gbs0) hisR ?_
  intro pP eE sS mI args below meth cC s₁ Bd hml0 hP hK
  obtain ⟨rfl, hZ, hh⟩ := hP
  have hx := Bd.exec
  have hby := Bd.bytes
  have hml : cC.maxLocals = 1 := hml0
  have hown : sS.vm.findClass own_TT = some mI.cls := by have z := findClass_of_methodNamed Bd.named; exact z
  have hnm := (name_of_methodNamed Bd.named Bd.method).1
  have X0 : Stand pP lL eE ({ frames := 2, cells := 1, slots := 0, locals := 62 } : Room) sS mI #[(.ref t)] below meth cC s₁ [] 0 0 := Stand.of_body Bd
  have e0 : s₁.heap = h0 := by rw [← hh, Bd.state]; rfl
  have N0 := Fr.nil n0
  obtain ⟨G, hG, hst, hend⟩ := own_abs pP eE below sS (own_Qco Z (0 : Int32) [] h0 n0) ({ frames := 2, cells := 1, slots := 0, locals := 62 } : Room).cells ({ frames := 2, cells := 1, slots := 0, locals := 62 } : Room).slots
  refine hG (S := s₁.setTop (entryFrame mI #[(.ref t)] 1)) (hst (fun t_ kt_ => castTop (ef_gbs0 mI t) kt_) ?_)
  show G (s₁.setTop (mkF mI 0 #[.val (.ref t)] []))
  refine o_aloadN hst X0.here hx (hb hby dgbs0_0) (pc' := 1) rfl rfl rfl ?_
  obtain ⟨T_1, X_1, e_1, st_1⟩ := getF X0 hx hZ hown (host := "") (Or.inl (own_w37 hw)) Via.refl e0 F_subjects_t (g := (mkF mI 1 #[.val (.ref t)] [(.ref t)])) rfl rfl (hb hby dgbs0_1)
  refine hst st_1 ?_
  show G (T_1.setTop (mkF mI 4 #[.val (.ref t)] [(.ref b)]))
  refine o_aloadN hst X_1.here hx (hb hby dgbs0_4) (pc' := 5) rfl rfl rfl ?_
  obtain ⟨T_2, X_2, e_2, st_2⟩ := getF X_1 hx hZ hown (host := "") (Or.inl (own_w129 hw)) Via.refl e_1 F_size_t (g := (mkF mI 5 #[.val (.ref t)] [(.ref t), (.ref b)])) rfl rfl (hb hby dgbs0_5)
  refine hst st_2 ?_
  show G (T_2.setTop (mkF mI 8 #[.val (.ref t)] [(.int (0 : Int32)), (.ref b)]))
  obtain ⟨_, _, ⟨T_3, L_3, k_3, n_3⟩, -, X_3, ⟨Lc_3, hQ_3, l_3, y_3, z_3⟩, st_3⟩ := Jvm.LawKit.callS X_2 hx (y := (⟨"java/util/Arrays", "copyOf", "([II)[I"⟩ : MethodName)) hown (mvT hZ (own_w167 hw)) (mvT hZ (own_w168 hw)) (mvT hZ (own_w169 hw)) (mvT hZ (own_w170 hw)) (by decide) (backOf (W := 0) (rmco0 lL Z a0 hw [] b kb  h0 n0 Z0 V_b) hZ (own_w170 hw) (own_w169 hw) (by decide) (by decide)) (g := (mkF mI 8 #[.val (.ref t)] [(.int (0 : Int32)), (.ref b)])) rfl (by rw [hml]; rfl) (argsL := [(.ref b), (.int (0 : Int32))]) (rest := []) (lenOf pd_6 rfl) rfl (by show 2 * 0 + _ ≤ _; exact Nat.le_of_eq rfl) (hb hby dgbs0_8) (fun _ _ => ⟨rfl, e_2, (by decide : 0 + 1 ≤ _), (by decide : 0 + 0 ≤ _)⟩)
  dsimp only [Pt.U, Pt.locs, Pt.cells, Pt.slots] at X_3 l_3 y_3 z_3 st_3 hQ_3
  subst l_3 y_3 z_3
  obtain ⟨c, kc, rfl, N_3q, K_3, le_c, V_c⟩ := hQ_3
  have N_3 := Fr.app N0 N_3q
  refine hst (fun _ kt => st_3 _ kt) ?_
  show G (T_3.setTop (mkF mI 11 #[.val (.ref t)] [(.ref c)]))
  exact hend (own_goRet X_3 hx Bd.returns rfl (Or.inr (Or.inr (Or.inr (Or.inr ⟨rfl, rfl, rfl⟩)))) (hb hby dgbs0_11) Bd.notSynchronized (by exact ⟨c, kc, rfl, N_3, K_3, le_c, V_c⟩) (by decide) (by decide))
theorem dgbp0_0 : decode prog_37_method_4_code 0 = .ok (.aload_n 0, 1) := by decide +kernel
theorem dgbp0_1 : decode prog_37_method_4_code 1 = .ok (.getfield 13, 3) := by decide +kernel
theorem dgbp0_4 : decode prog_37_method_4_code 4 = .ok (.aload_n 0, 1) := by decide +kernel
theorem dgbp0_5 : decode prog_37_method_4_code 5 = .ok (.getfield 48, 3) := by decide +kernel
theorem dgbp0_8 : decode prog_37_method_4_code 8 = .ok (.invokestatic 52, 3) := by decide +kernel
theorem dgbp0_11 : decode prog_37_method_4_code 11 = .ok (.areturn, 1) := by decide +kernel
theorem ef_gbp0 (mI : MethodId) (t : Addr) : entryFrame mI #[(.ref t)] 1 = mkF mI 0 #[.val (.ref t)] [] := by first | (simp [entryFrame, mkF, argsToLocals, Value.category]; done) | rfl
theorem pn_gbp0 : plainName own_TT = true := by first | decide +kernel | (simp [plainName, overriddenIn]; done)
set_option maxRecDepth 65536 in
set_option maxHeartbeats 40000000 in
theorem rmgbp0 (lL : Launch) (Z : State) (a0 : Array Value) (hw : ∀ d ∈ tables_1, d.before a0 Z = true) (ws : List Jvm.Cond) (t : Addr) (b : Addr) (kb : ClassId) (h0 : Heap) (n0 : Nat) (Z0 : n0 ≤ h0.size) (F_predicates_t : Fld Z h0 t own_TT "predicates" "[I" (.ref b)) (F_size_t : Fld Z h0 t own_TT "size" "I" (.int (0 : Int32))) (V_b : Arv Z h0 b kb .int (1024 : Int32) [] (.int (0 : Int32))) :
    MetFree lL (⟨own_TT, "predicates", "()[I"⟩ : MethodName) (head1 (Jvm.Cond.code (⟨own_TT, "predicates", "()[I"⟩ : MethodName) prog_37_method_4_code 1 (some (.array .int)) :: ws) ({ frames := 2, cells := 1, slots := 0, locals := 62 } : Room)) (fun a_ U_ => a_ = #[(.ref t)] ∧ Z.Warmed39 U_.vm ∧ U_.heap = h0) (fun _ _ _ _ _ => True) (fun _ U_ o_ W_ => ∃ v_ L_, o_ = .returned v_ ∧ own_Qco Z (0 : Int32) [] h0 n0 v_ W_.heap L_ ∧ FrameEnd U_ o_ W_ L_ ({ frames := 2, cells := 1, slots := 0, locals := 62 } : Room).cells ({ frames := 2, cells := 1, slots := 0, locals := 62 } : Room).slots) := by
  refine MetFree.of_bodySF (plainFor_of_name pn_gbp0) hisR ?_
  intro pP eE sS mI args below meth cC s₁ Bd hml0 hP hK
  obtain ⟨rfl, hZ, hh⟩ := hP
  have hx := Bd.exec
  have hby := Bd.bytes
  have hml : cC.maxLocals = 1 := hml0
  have hown : sS.vm.findClass own_TT = some mI.cls := by have z := findClass_of_methodNamed Bd.named; exact z
  have hnm := (name_of_methodNamed Bd.named Bd.method).1
  have X0 : Stand pP lL eE ({ frames := 2, cells := 1, slots := 0, locals := 62 } : Room) sS mI #[(.ref t)] below meth cC s₁ [] 0 0 := Stand.of_body Bd
  have e0 : s₁.heap = h0 := by rw [← hh, Bd.state]; rfl
  have N0 := Fr.nil n0
  obtain ⟨G, hG, hst, hend⟩ := own_abs pP eE below sS (own_Qco Z (0 : Int32) [] h0 n0) ({ frames := 2, cells := 1, slots := 0, locals := 62 } : Room).cells ({ frames := 2, cells := 1, slots := 0, locals := 62 } : Room).slots
  refine hG (S := s₁.setTop (entryFrame mI #[(.ref t)] 1)) (hst (fun t_ kt_ => castTop (ef_gbp0 mI t) kt_) ?_)
  show G (s₁.setTop (mkF mI 0 #[.val (.ref t)] []))
  refine o_aloadN hst X0.here hx (hb hby dgbp0_0) (pc' := 1) rfl rfl rfl ?_
  obtain ⟨T_1, X_1, e_1, st_1⟩ := getF X0 hx hZ hown (host := "") (Or.inl (own_w39 hw)) Via.refl e0 F_predicates_t (g := (mkF mI 1 #[.val (.ref t)] [(.ref t)])) rfl rfl (hb hby dgbp0_1)
  refine hst st_1 ?_
  show G (T_1.setTop (mkF mI 4 #[.val (.ref t)] [(.ref b)]))
  refine o_aloadN hst X_1.here hx (hb hby dgbp0_4) (pc' := 5) rfl rfl rfl ?_
  obtain ⟨T_2, X_2, e_2, st_2⟩ := getF X_1 hx hZ hown (host := "") (Or.inl (own_w129 hw)) Via.refl e_1 F_size_t (g := (mkF mI 5 #[.val (.ref t)] [(.ref t), (.ref b)])) rfl rfl (hb hby dgbp0_5)
  refine hst st_2 ?_
  show G (T_2.setTop (mkF mI 8 #[.val (.ref t)] [(.int (0 : Int32)), (.ref b)]))
  obtain ⟨_, _, ⟨T_3, L_3, k_3, n_3⟩, -, X_3, ⟨Lc_3, hQ_3, l_3, y_3, z_3⟩, st_3⟩ := Jvm.LawKit.callS X_2 hx (y := (⟨"java/util/Arrays", "copyOf", "([II)[I"⟩ : MethodName)) hown (mvT hZ (own_w167 hw)) (mvT hZ (own_w168 hw)) (mvT hZ (own_w169 hw)) (mvT hZ (own_w170 hw)) (by decide) (backOf (W := 0) (rmco0 lL Z a0 hw [] b kb  h0 n0 Z0 V_b) hZ (own_w170 hw) (own_w169 hw) (by decide) (by decide)) (g := (mkF mI 8 #[.val (.ref t)] [(.int (0 : Int32)), (.ref b)])) rfl (by rw [hml]; rfl) (argsL := [(.ref b), (.int (0 : Int32))]) (rest := []) (lenOf pd_6 rfl) rfl (by show 2 * 0 + _ ≤ _; exact Nat.le_of_eq rfl) (hb hby dgbp0_8) (fun _ _ => ⟨rfl, e_2, (by decide : 0 + 1 ≤ _), (by decide : 0 + 0 ≤ _)⟩)
  dsimp only [Pt.U, Pt.locs, Pt.cells, Pt.slots] at X_3 l_3 y_3 z_3 st_3 hQ_3
  subst l_3 y_3 z_3
  obtain ⟨c, kc, rfl, N_3q, K_3, le_c, V_c⟩ := hQ_3
  have N_3 := Fr.app N0 N_3q
  refine hst (fun _ kt => st_3 _ kt) ?_
  show G (T_3.setTop (mkF mI 11 #[.val (.ref t)] [(.ref c)]))
  exact hend (own_goRet X_3 hx Bd.returns rfl (Or.inr (Or.inr (Or.inr (Or.inr ⟨rfl, rfl, rfl⟩)))) (hb hby dgbp0_11) Bd.notSynchronized (by exact ⟨c, kc, rfl, N_3, K_3, le_c, V_c⟩) (by decide) (by decide))
theorem dgbo0_0 : decode prog_37_method_5_code 0 = .ok (.aload_n 0, 1) := by decide +kernel
theorem dgbo0_1 : decode prog_37_method_5_code 1 = .ok (.getfield 16, 3) := by decide +kernel
theorem dgbo0_4 : decode prog_37_method_5_code 4 = .ok (.aload_n 0, 1) := by decide +kernel
theorem dgbo0_5 : decode prog_37_method_5_code 5 = .ok (.getfield 48, 3) := by decide +kernel
theorem dgbo0_8 : decode prog_37_method_5_code 8 = .ok (.invokestatic 52, 3) := by decide +kernel
theorem dgbo0_11 : decode prog_37_method_5_code 11 = .ok (.areturn, 1) := by decide +kernel
theorem ef_gbo0 (mI : MethodId) (t : Addr) : entryFrame mI #[(.ref t)] 1 = mkF mI 0 #[.val (.ref t)] [] := by first | (simp [entryFrame, mkF, argsToLocals, Value.category]; done) | rfl
theorem pn_gbo0 : plainName own_TT = true := by first | decide +kernel | (simp [plainName, overriddenIn]; done)
set_option maxRecDepth 65536 in
set_option maxHeartbeats 40000000 in
theorem rmgbo0 (lL : Launch) (Z : State) (a0 : Array Value) (hw : ∀ d ∈ tables_1, d.before a0 Z = true) (ws : List Jvm.Cond) (t : Addr) (b : Addr) (kb : ClassId) (h0 : Heap) (n0 : Nat) (Z0 : n0 ≤ h0.size) (F_objects_t : Fld Z h0 t own_TT "objects" "[I" (.ref b)) (F_size_t : Fld Z h0 t own_TT "size" "I" (.int (0 : Int32))) (V_b : Arv Z h0 b kb .int (1024 : Int32) [] (.int (0 : Int32))) :
    MetFree lL (⟨own_TT, "objects", "()[I"⟩ : MethodName) (head1 (Jvm.Cond.code (⟨own_TT, "objects", "()[I"⟩ : MethodName) prog_37_method_5_code 1 (some (.array .int)) :: ws) ({ frames := 2, cells := 1, slots := 0, locals := 62 } : Room)) (fun a_ U_ => a_ = #[(.ref t)] ∧ Z.Warmed39 U_.vm ∧ U_.heap = h0) (fun _ _ _ _ _ => True) (fun _ U_ o_ W_ => ∃ v_ L_, o_ = .returned v_ ∧ own_Qco Z (0 : Int32) [] h0 n0 v_ W_.heap L_ ∧ FrameEnd U_ o_ W_ L_ ({ frames := 2, cells := 1, slots := 0, locals := 62 } : Room).cells ({ frames := 2, cells := 1, slots := 0, locals := 62 } : Room).slots) := by
  refine MetFree.of_bodySF (plainFor_of_name pn_gbo0) hisR ?_
  intro pP eE sS mI args below meth cC s₁ Bd hml0 hP hK
  obtain ⟨rfl, hZ, hh⟩ := hP
  have hx := Bd.exec
  have hby := Bd.bytes
  have hml : cC.maxLocals = 1 := hml0
  have hown : sS.vm.findClass own_TT = some mI.cls := by have z := findClass_of_methodNamed Bd.named; exact z
  have hnm := (name_of_methodNamed Bd.named Bd.method).1
  have X0 : Stand pP lL eE ({ frames := 2, cells := 1, slots := 0, locals := 62 } : Room) sS mI #[(.ref t)] below meth cC s₁ [] 0 0 := Stand.of_body Bd
  have e0 : s₁.heap = h0 := by rw [← hh, Bd.state]; rfl
  have N0 := Fr.nil n0
  obtain ⟨G, hG, hst, hend⟩ := own_abs pP eE below sS (own_Qco Z (0 : Int32) [] h0 n0) ({ frames := 2, cells := 1, slots := 0, locals := 62 } : Room).cells ({ frames := 2, cells := 1, slots := 0, locals := 62 } : Room).slots
  refine hG (S := s₁.setTop (entryFrame mI #[(.ref t)] 1)) (hst (fun t_ kt_ => castTop (ef_gbo0 mI t) kt_) ?_)
  show G (s₁.setTop (mkF mI 0 #[.val (.ref t)] []))
  refine o_aloadN hst X0.here hx (hb hby dgbo0_0) (pc' := 1) rfl rfl rfl ?_
  obtain ⟨T_1, X_1, e_1, st_1⟩ := getF X0 hx hZ hown (host := "") (Or.inl (own_w41 hw)) Via.refl e0 F_objects_t (g := (mkF mI 1 #[.val (.ref t)] [(.ref t)])) rfl rfl (hb hby dgbo0_1)
  refine hst st_1 ?_
  show G (T_1.setTop (mkF mI 4 #[.val (.ref t)] [(.ref b)]))
  refine o_aloadN hst X_1.here hx (hb hby dgbo0_4) (pc' := 5) rfl rfl rfl ?_
  obtain ⟨T_2, X_2, e_2, st_2⟩ := getF X_1 hx hZ hown (host := "") (Or.inl (own_w129 hw)) Via.refl e_1 F_size_t (g := (mkF mI 5 #[.val (.ref t)] [(.ref t), (.ref b)])) rfl rfl (hb hby dgbo0_5)
  refine hst st_2 ?_
  show G (T_2.setTop (mkF mI 8 #[.val (.ref t)] [(.int (0 : Int32)), (.ref b)]))
  obtain ⟨_, _, ⟨T_3, L_3, k_3, n_3⟩, -, X_3, ⟨Lc_3, hQ_3, l_3, y_3, z_3⟩, st_3⟩ := Jvm.LawKit.callS X_2 hx (y := (⟨"java/util/Arrays", "copyOf", "([II)[I"⟩ : MethodName)) hown (mvT hZ (own_w167 hw)) (mvT hZ (own_w168 hw)) (mvT hZ (own_w169 hw)) (mvT hZ (own_w170 hw)) (by decide) (backOf (W := 0) (rmco0 lL Z a0 hw [] b kb  h0 n0 Z0 V_b) hZ (own_w170 hw) (own_w169 hw) (by decide) (by decide)) (g := (mkF mI 8 #[.val (.ref t)] [(.int (0 : Int32)), (.ref b)])) rfl (by rw [hml]; rfl) (argsL := [(.ref b), (.int (0 : Int32))]) (rest := []) (lenOf pd_6 rfl) rfl (by show 2 * 0 + _ ≤ _; exact Nat.le_of_eq rfl) (hb hby dgbo0_8) (fun _ _ => ⟨rfl, e_2, (by decide : 0 + 1 ≤ _), (by decide : 0 + 0 ≤ _)⟩)
  dsimp only [Pt.U, Pt.locs, Pt.cells, Pt.slots] at X_3 l_3 y_3 z_3 st_3 hQ_3
  subst l_3 y_3 z_3
  obtain ⟨c, kc, rfl, N_3q, K_3, le_c, V_c⟩ := hQ_3
  have N_3 := Fr.app N0 N_3q
  refine hst (fun _ kt => st_3 _ kt) ?_
  show G (T_3.setTop (mkF mI 11 #[.val (.ref t)] [(.ref c)]))
  exact hend (own_goRet X_3 hx Bd.returns rfl (Or.inr (Or.inr (Or.inr (Or.inr ⟨rfl, rfl, rfl⟩)))) (hb hby dgbo0_11) Bd.notSynchronized (by exact ⟨c, kc, rfl, N_3, K_3, le_c, V_c⟩) (by decide) (by decide))
theorem dgbs3_0 : decode prog_37_method_3_code 0 = .ok (.aload_n 0, 1) := by decide +kernel
theorem dgbs3_1 : decode prog_37_method_3_code 1 = .ok (.getfield 9, 3) := by decide +kernel
theorem dgbs3_4 : decode prog_37_method_3_code 4 = .ok (.aload_n 0, 1) := by decide +kernel
theorem dgbs3_5 : decode prog_37_method_3_code 5 = .ok (.getfield 48, 3) := by decide +kernel
theorem dgbs3_8 : decode prog_37_method_3_code 8 = .ok (.invokestatic 52, 3) := by decide +kernel
theorem dgbs3_11 : decode prog_37_method_3_code 11 = .ok (.areturn, 1) := by decide +kernel
theorem ef_gbs3 (mI : MethodId) (t : Addr) : entryFrame mI #[(.ref t)] 1 = mkF mI 0 #[.val (.ref t)] [] := by first | (simp [entryFrame, mkF, argsToLocals, Value.category]; done) | rfl
theorem pn_gbs3 : plainName own_TT = true := by first | decide +kernel | (simp [plainName, overriddenIn]; done)
set_option maxRecDepth 65536 in
set_option maxHeartbeats 40000000 in
theorem rmgbs3 (lL : Launch) (Z : State) (a0 : Array Value) (hw : ∀ d ∈ tables_1, d.before a0 Z = true) (ws : List Jvm.Cond) (t : Addr) (b : Addr) (kb : ClassId) (z0 : Int32) (z1 : Int32) (z2 : Int32) (h0 : Heap) (n0 : Nat) (Z0 : n0 ≤ h0.size) (F_subjects_t : Fld Z h0 t own_TT "subjects" "[I" (.ref b)) (F_size_t : Fld Z h0 t own_TT "size" "I" (.int (3 : Int32))) (V_b : Arv Z h0 b kb .int (1024 : Int32) [(.int z0), (.int z1), (.int z2)] (.int (0 : Int32))) :
    MetFree lL (⟨own_TT, "subjects", "()[I"⟩ : MethodName) (head1 (Jvm.Cond.code (⟨own_TT, "subjects", "()[I"⟩ : MethodName) prog_37_method_3_code 1 (some (.array .int)) :: ws) ({ frames := 2, cells := 1, slots := 3, locals := 62 } : Room)) (fun a_ U_ => a_ = #[(.ref t)] ∧ Z.Warmed39 U_.vm ∧ U_.heap = h0) (fun _ _ _ _ _ => True) (fun _ U_ o_ W_ => ∃ v_ L_, o_ = .returned v_ ∧ own_Qco Z (3 : Int32) [(.int z0), (.int z1), (.int z2)] h0 n0 v_ W_.heap L_ ∧ FrameEnd U_ o_ W_ L_ ({ frames := 2, cells := 1, slots := 3, locals := 62 } : Room).cells ({ frames := 2, cells := 1, slots := 3, locals := 62 } : Room).slots) := by
  refine MetFree.of_bodySF (plainFor_of_name pn_gbs3) hisR ?_
  intro pP eE sS mI args below meth cC s₁ Bd hml0 hP hK
  obtain ⟨rfl, hZ, hh⟩ := hP
  have hx := Bd.exec
  have hby := Bd.bytes
  have hml : cC.maxLocals = 1 := hml0
  have hown : sS.vm.findClass own_TT = some mI.cls := by have z := findClass_of_methodNamed Bd.named; exact z
  have hnm := (name_of_methodNamed Bd.named Bd.method).1
  have X0 : Stand pP lL eE ({ frames := 2, cells := 1, slots := 3, locals := 62 } : Room) sS mI #[(.ref t)] below meth cC s₁ [] 0 0 := Stand.of_body Bd
  have e0 : s₁.heap = h0 := by rw [← hh, Bd.state]; rfl
  have N0 := Fr.nil n0
  obtain ⟨G, hG, hst, hend⟩ := own_abs pP eE below sS (own_Qco Z (3 : Int32) [(.int z0), (.int z1), (.int z2)] h0 n0) ({ frames := 2, cells := 1, slots := 3, locals := 62 } : Room).cells ({ frames := 2, cells := 1, slots := 3, locals := 62 } : Room).slots
  refine hG (S := s₁.setTop (entryFrame mI #[(.ref t)] 1)) (hst (fun t_ kt_ => castTop (ef_gbs3 mI t) kt_) ?_)
  show G (s₁.setTop (mkF mI 0 #[.val (.ref t)] []))
  refine o_aloadN hst X0.here hx (hb hby dgbs3_0) (pc' := 1) rfl rfl rfl ?_
  obtain ⟨T_1, X_1, e_1, st_1⟩ := getF X0 hx hZ hown (host := "") (Or.inl (own_w37 hw)) Via.refl e0 F_subjects_t (g := (mkF mI 1 #[.val (.ref t)] [(.ref t)])) rfl rfl (hb hby dgbs3_1)
  refine hst st_1 ?_
  show G (T_1.setTop (mkF mI 4 #[.val (.ref t)] [(.ref b)]))
  refine o_aloadN hst X_1.here hx (hb hby dgbs3_4) (pc' := 5) rfl rfl rfl ?_
  obtain ⟨T_2, X_2, e_2, st_2⟩ := getF X_1 hx hZ hown (host := "") (Or.inl (own_w129 hw)) Via.refl e_1 F_size_t (g := (mkF mI 5 #[.val (.ref t)] [(.ref t), (.ref b)])) rfl rfl (hb hby dgbs3_5)
  refine hst st_2 ?_
  show G (T_2.setTop (mkF mI 8 #[.val (.ref t)] [(.int (3 : Int32)), (.ref b)]))
  obtain ⟨_, _, ⟨T_3, L_3, k_3, n_3⟩, -, X_3, ⟨Lc_3, hQ_3, l_3, y_3, z_3⟩, st_3⟩ := Jvm.LawKit.callS X_2 hx (y := (⟨"java/util/Arrays", "copyOf", "([II)[I"⟩ : MethodName)) hown (mvT hZ (own_w167 hw)) (mvT hZ (own_w168 hw)) (mvT hZ (own_w169 hw)) (mvT hZ (own_w170 hw)) (by decide) (backOf (W := 0) (rmco3 lL Z a0 hw [] b kb z0 z1 z2 h0 n0 Z0 V_b) hZ (own_w170 hw) (own_w169 hw) (by decide) (by decide)) (g := (mkF mI 8 #[.val (.ref t)] [(.int (3 : Int32)), (.ref b)])) rfl (by rw [hml]; rfl) (argsL := [(.ref b), (.int (3 : Int32))]) (rest := []) (lenOf pd_6 rfl) rfl (by show 2 * 0 + _ ≤ _; exact Nat.le_of_eq rfl) (hb hby dgbs3_8) (fun _ _ => ⟨rfl, e_2, (by decide : 0 + 1 ≤ _), (by decide : 0 + 3 ≤ _)⟩)
  dsimp only [Pt.U, Pt.locs, Pt.cells, Pt.slots] at X_3 l_3 y_3 z_3 st_3 hQ_3
  subst l_3 y_3 z_3
  obtain ⟨c, kc, rfl, N_3q, K_3, le_c, V_c⟩ := hQ_3
  have N_3 := Fr.app N0 N_3q
  refine hst (fun _ kt => st_3 _ kt) ?_
  show G (T_3.setTop (mkF mI 11 #[.val (.ref t)] [(.ref c)]))
  exact hend (own_goRet X_3 hx Bd.returns rfl (Or.inr (Or.inr (Or.inr (Or.inr ⟨rfl, rfl, rfl⟩)))) (hb hby dgbs3_11) Bd.notSynchronized (by exact ⟨c, kc, rfl, N_3, K_3, le_c, V_c⟩) (by decide) (by decide))
theorem dgbp3_0 : decode prog_37_method_4_code 0 = .ok (.aload_n 0, 1) := by decide +kernel
theorem dgbp3_1 : decode prog_37_method_4_code 1 = .ok (.getfield 13, 3) := by decide +kernel
theorem dgbp3_4 : decode prog_37_method_4_code 4 = .ok (.aload_n 0, 1) := by decide +kernel
theorem dgbp3_5 : decode prog_37_method_4_code 5 = .ok (.getfield 48, 3) := by decide +kernel
theorem dgbp3_8 : decode prog_37_method_4_code 8 = .ok (.invokestatic 52, 3) := by decide +kernel
theorem dgbp3_11 : decode prog_37_method_4_code 11 = .ok (.areturn, 1) := by decide +kernel
theorem ef_gbp3 (mI : MethodId) (t : Addr) : entryFrame mI #[(.ref t)] 1 = mkF mI 0 #[.val (.ref t)] [] := by first | (simp [entryFrame, mkF, argsToLocals, Value.category]; done) | rfl
theorem pn_gbp3 : plainName own_TT = true := by first | decide +kernel | (simp [plainName, overriddenIn]; done)
set_option maxRecDepth 65536 in
set_option maxHeartbeats 40000000 in
theorem rmgbp3 (lL : Launch) (Z : State) (a0 : Array Value) (hw : ∀ d ∈ tables_1, d.before a0 Z = true) (ws : List Jvm.Cond) (t : Addr) (b : Addr) (kb : ClassId) (z0 : Int32) (z1 : Int32) (z2 : Int32) (h0 : Heap) (n0 : Nat) (Z0 : n0 ≤ h0.size) (F_predicates_t : Fld Z h0 t own_TT "predicates" "[I" (.ref b)) (F_size_t : Fld Z h0 t own_TT "size" "I" (.int (3 : Int32))) (V_b : Arv Z h0 b kb .int (1024 : Int32) [(.int z0), (.int z1), (.int z2)] (.int (0 : Int32))) :
    MetFree lL (⟨own_TT, "predicates", "()[I"⟩ : MethodName) (head1 (Jvm.Cond.code (⟨own_TT, "predicates", "()[I"⟩ : MethodName) prog_37_method_4_code 1 (some (.array .int)) :: ws) ({ frames := 2, cells := 1, slots := 3, locals := 62 } : Room)) (fun a_ U_ => a_ = #[(.ref t)] ∧ Z.Warmed39 U_.vm ∧ U_.heap = h0) (fun _ _ _ _ _ => True) (fun _ U_ o_ W_ => ∃ v_ L_, o_ = .returned v_ ∧ own_Qco Z (3 : Int32) [(.int z0), (.int z1), (.int z2)] h0 n0 v_ W_.heap L_ ∧ FrameEnd U_ o_ W_ L_ ({ frames := 2, cells := 1, slots := 3, locals := 62 } : Room).cells ({ frames := 2, cells := 1, slots := 3, locals := 62 } : Room).slots) := by
  refine MetFree.of_bodySF (plainFor_of_name pn_gbp3) hisR ?_
  intro pP eE sS mI args below meth cC s₁ Bd hml0 hP hK
  obtain ⟨rfl, hZ, hh⟩ := hP
  have hx := Bd.exec
  have hby := Bd.bytes
  have hml : cC.maxLocals = 1 := hml0
  have hown : sS.vm.findClass own_TT = some mI.cls := by have z := findClass_of_methodNamed Bd.named; exact z
  have hnm := (name_of_methodNamed Bd.named Bd.method).1
  have X0 : Stand pP lL eE ({ frames := 2, cells := 1, slots := 3, locals := 62 } : Room) sS mI #[(.ref t)] below meth cC s₁ [] 0 0 := Stand.of_body Bd
  have e0 : s₁.heap = h0 := by rw [← hh, Bd.state]; rfl
  have N0 := Fr.nil n0
  obtain ⟨G, hG, hst, hend⟩ := own_abs pP eE below sS (own_Qco Z (3 : Int32) [(.int z0), (.int z1), (.int z2)] h0 n0) ({ frames := 2, cells := 1, slots := 3, locals := 62 } : Room).cells ({ frames := 2, cells := 1, slots := 3, locals := 62 } : Room).slots
  refine hG (S := s₁.setTop (entryFrame mI #[(.ref t)] 1)) (hst (fun t_ kt_ => castTop (ef_gbp3 mI t) kt_) ?_)
  show G (s₁.setTop (mkF mI 0 #[.val (.ref t)] []))
  refine o_aloadN hst X0.here hx (hb hby dgbp3_0) (pc' := 1) rfl rfl rfl ?_
  obtain ⟨T_1, X_1, e_1, st_1⟩ := getF X0 hx hZ hown (host := "") (Or.inl (own_w39 hw)) Via.refl e0 F_predicates_t (g := (mkF mI 1 #[.val (.ref t)] [(.ref t)])) rfl rfl (hb hby dgbp3_1)
  refine hst st_1 ?_
  show G (T_1.setTop (mkF mI 4 #[.val (.ref t)] [(.ref b)]))
  refine o_aloadN hst X_1.here hx (hb hby dgbp3_4) (pc' := 5) rfl rfl rfl ?_
  obtain ⟨T_2, X_2, e_2, st_2⟩ := getF X_1 hx hZ hown (host := "") (Or.inl (own_w129 hw)) Via.refl e_1 F_size_t (g := (mkF mI 5 #[.val (.ref t)] [(.ref t), (.ref b)])) rfl rfl (hb hby dgbp3_5)
  refine hst st_2 ?_
  show G (T_2.setTop (mkF mI 8 #[.val (.ref t)] [(.int (3 : Int32)), (.ref b)]))
  obtain ⟨_, _, ⟨T_3, L_3, k_3, n_3⟩, -, X_3, ⟨Lc_3, hQ_3, l_3, y_3, z_3⟩, st_3⟩ := Jvm.LawKit.callS X_2 hx (y := (⟨"java/util/Arrays", "copyOf", "([II)[I"⟩ : MethodName)) hown (mvT hZ (own_w167 hw)) (mvT hZ (own_w168 hw)) (mvT hZ (own_w169 hw)) (mvT hZ (own_w170 hw)) (by decide) (backOf (W := 0) (rmco3 lL Z a0 hw [] b kb z0 z1 z2 h0 n0 Z0 V_b) hZ (own_w170 hw) (own_w169 hw) (by decide) (by decide)) (g := (mkF mI 8 #[.val (.ref t)] [(.int (3 : Int32)), (.ref b)])) rfl (by rw [hml]; rfl) (argsL := [(.ref b), (.int (3 : Int32))]) (rest := []) (lenOf pd_6 rfl) rfl (by show 2 * 0 + _ ≤ _; exact Nat.le_of_eq rfl) (hb hby dgbp3_8) (fun _ _ => ⟨rfl, e_2, (by decide : 0 + 1 ≤ _), (by decide : 0 + 3 ≤ _)⟩)
  dsimp only [Pt.U, Pt.locs, Pt.cells, Pt.slots] at X_3 l_3 y_3 z_3 st_3 hQ_3
  subst l_3 y_3 z_3
  obtain ⟨c, kc, rfl, N_3q, K_3, le_c, V_c⟩ := hQ_3
  have N_3 := Fr.app N0 N_3q
  refine hst (fun _ kt => st_3 _ kt) ?_
  show G (T_3.setTop (mkF mI 11 #[.val (.ref t)] [(.ref c)]))
  exact hend (own_goRet X_3 hx Bd.returns rfl (Or.inr (Or.inr (Or.inr (Or.inr ⟨rfl, rfl, rfl⟩)))) (hb hby dgbp3_11) Bd.notSynchronized (by exact ⟨c, kc, rfl, N_3, K_3, le_c, V_c⟩) (by decide) (by decide))
theorem dgbo3_0 : decode prog_37_method_5_code 0 = .ok (.aload_n 0, 1) := by decide +kernel
theorem dgbo3_1 : decode prog_37_method_5_code 1 = .ok (.getfield 16, 3) := by decide +kernel
theorem dgbo3_4 : decode prog_37_method_5_code 4 = .ok (.aload_n 0, 1) := by decide +kernel
theorem dgbo3_5 : decode prog_37_method_5_code 5 = .ok (.getfield 48, 3) := by decide +kernel
theorem dgbo3_8 : decode prog_37_method_5_code 8 = .ok (.invokestatic 52, 3) := by decide +kernel
theorem dgbo3_11 : decode prog_37_method_5_code 11 = .ok (.areturn, 1) := by decide +kernel
theorem ef_gbo3 (mI : MethodId) (t : Addr) : entryFrame mI #[(.ref t)] 1 = mkF mI 0 #[.val (.ref t)] [] := by first | (simp [entryFrame, mkF, argsToLocals, Value.category]; done) | rfl
theorem pn_gbo3 : plainName own_TT = true := by first | decide +kernel | (simp [plainName, overriddenIn]; done)
set_option maxRecDepth 65536 in
set_option maxHeartbeats 40000000 in
theorem rmgbo3 (lL : Launch) (Z : State) (a0 : Array Value) (hw : ∀ d ∈ tables_1, d.before a0 Z = true) (ws : List Jvm.Cond) (t : Addr) (b : Addr) (kb : ClassId) (z0 : Int32) (z1 : Int32) (z2 : Int32) (h0 : Heap) (n0 : Nat) (Z0 : n0 ≤ h0.size) (F_objects_t : Fld Z h0 t own_TT "objects" "[I" (.ref b)) (F_size_t : Fld Z h0 t own_TT "size" "I" (.int (3 : Int32))) (V_b : Arv Z h0 b kb .int (1024 : Int32) [(.int z0), (.int z1), (.int z2)] (.int (0 : Int32))) :
    MetFree lL (⟨own_TT, "objects", "()[I"⟩ : MethodName) (head1 (Jvm.Cond.code (⟨own_TT, "objects", "()[I"⟩ : MethodName) prog_37_method_5_code 1 (some (.array .int)) :: ws) ({ frames := 2, cells := 1, slots := 3, locals := 62 } : Room)) (fun a_ U_ => a_ = #[(.ref t)] ∧ Z.Warmed39 U_.vm ∧ U_.heap = h0) (fun _ _ _ _ _ => True) (fun _ U_ o_ W_ => ∃ v_ L_, o_ = .returned v_ ∧ own_Qco Z (3 : Int32) [(.int z0), (.int z1), (.int z2)] h0 n0 v_ W_.heap L_ ∧ FrameEnd U_ o_ W_ L_ ({ frames := 2, cells := 1, slots := 3, locals := 62 } : Room).cells ({ frames := 2, cells := 1, slots := 3, locals := 62 } : Room).slots) := by
  refine MetFree.of_bodySF (plainFor_of_name pn_gbo3) hisR ?_
  intro pP eE sS mI args below meth cC s₁ Bd hml0 hP hK
  obtain ⟨rfl, hZ, hh⟩ := hP
  have hx := Bd.exec
  have hby := Bd.bytes
  have hml : cC.maxLocals = 1 := hml0
  have hown : sS.vm.findClass own_TT = some mI.cls := by have z := findClass_of_methodNamed Bd.named; exact z
  have hnm := (name_of_methodNamed Bd.named Bd.method).1
  have X0 : Stand pP lL eE ({ frames := 2, cells := 1, slots := 3, locals := 62 } : Room) sS mI #[(.ref t)] below meth cC s₁ [] 0 0 := Stand.of_body Bd
  have e0 : s₁.heap = h0 := by rw [← hh, Bd.state]; rfl
  have N0 := Fr.nil n0
  obtain ⟨G, hG, hst, hend⟩ := own_abs pP eE below sS (own_Qco Z (3 : Int32) [(.int z0), (.int z1), (.int z2)] h0 n0) ({ frames := 2, cells := 1, slots := 3, locals := 62 } : Room).cells ({ frames := 2, cells := 1, slots := 3, locals := 62 } : Room).slots
  refine hG (S := s₁.setTop (entryFrame mI #[(.ref t)] 1)) (hst (fun t_ kt_ => castTop (ef_gbo3 mI t) kt_) ?_)
  show G (s₁.setTop (mkF mI 0 #[.val (.ref t)] []))
  refine o_aloadN hst X0.here hx (hb hby dgbo3_0) (pc' := 1) rfl rfl rfl ?_
  obtain ⟨T_1, X_1, e_1, st_1⟩ := getF X0 hx hZ hown (host := "") (Or.inl (own_w41 hw)) Via.refl e0 F_objects_t (g := (mkF mI 1 #[.val (.ref t)] [(.ref t)])) rfl rfl (hb hby dgbo3_1)
  refine hst st_1 ?_
  show G (T_1.setTop (mkF mI 4 #[.val (.ref t)] [(.ref b)]))
  refine o_aloadN hst X_1.here hx (hb hby dgbo3_4) (pc' := 5) rfl rfl rfl ?_
  obtain ⟨T_2, X_2, e_2, st_2⟩ := getF X_1 hx hZ hown (host := "") (Or.inl (own_w129 hw)) Via.refl e_1 F_size_t (g := (mkF mI 5 #[.val (.ref t)] [(.ref t), (.ref b)])) rfl rfl (hb hby dgbo3_5)
  refine hst st_2 ?_
  show G (T_2.setTop (mkF mI 8 #[.val (.ref t)] [(.int (3 : Int32)), (.ref b)]))
  obtain ⟨_, _, ⟨T_3, L_3, k_3, n_3⟩, -, X_3, ⟨Lc_3, hQ_3, l_3, y_3, z_3⟩, st_3⟩ := Jvm.LawKit.callS X_2 hx (y := (⟨"java/util/Arrays", "copyOf", "([II)[I"⟩ : MethodName)) hown (mvT hZ (own_w167 hw)) (mvT hZ (own_w168 hw)) (mvT hZ (own_w169 hw)) (mvT hZ (own_w170 hw)) (by decide) (backOf (W := 0) (rmco3 lL Z a0 hw [] b kb z0 z1 z2 h0 n0 Z0 V_b) hZ (own_w170 hw) (own_w169 hw) (by decide) (by decide)) (g := (mkF mI 8 #[.val (.ref t)] [(.int (3 : Int32)), (.ref b)])) rfl (by rw [hml]; rfl) (argsL := [(.ref b), (.int (3 : Int32))]) (rest := []) (lenOf pd_6 rfl) rfl (by show 2 * 0 + _ ≤ _; exact Nat.le_of_eq rfl) (hb hby dgbo3_8) (fun _ _ => ⟨rfl, e_2, (by decide : 0 + 1 ≤ _), (by decide : 0 + 3 ≤ _)⟩)
  dsimp only [Pt.U, Pt.locs, Pt.cells, Pt.slots] at X_3 l_3 y_3 z_3 st_3 hQ_3
  subst l_3 y_3 z_3
  obtain ⟨c, kc, rfl, N_3q, K_3, le_c, V_c⟩ := hQ_3
  have N_3 := Fr.app N0 N_3q
  refine hst (fun _ kt => st_3 _ kt) ?_
  show G (T_3.setTop (mkF mI 11 #[.val (.ref t)] [(.ref c)]))
  exact hend (own_goRet X_3 hx Bd.returns rfl (Or.inr (Or.inr (Or.inr (Or.inr ⟨rfl, rfl, rfl⟩)))) (hb hby dgbo3_11) Bd.notSynchronized (by exact ⟨c, kc, rfl, N_3, K_3, le_c, V_c⟩) (by decide) (by decide))
theorem dms_0 : decode jdk_69_method_10_code 0 = .ok (.aload_n 0, 1) := by decide +kernel
theorem dms_1 : decode jdk_69_method_10_code 1 = .ok (.getfield 156, 3) := by decide +kernel
theorem dms_4 : decode jdk_69_method_10_code 4 = .ok (.ireturn, 1) := by decide +kernel
theorem ef_ms (mI : MethodId) (m : Addr) : entryFrame mI #[(.ref m)] 1 = mkF mI 0 #[.val (.ref m)] [] := by first | (simp [entryFrame, mkF, argsToLocals, Value.category]; done) | rfl
theorem pn_ms : plainName "java/util/HashMap" = true := by first | decide +kernel | (simp [plainName, overriddenIn]; done)
set_option maxRecDepth 65536 in
set_option maxHeartbeats 40000000 in
theorem rmms (lL : Launch) (Z : State) (a0 : Array Value) (hw : ∀ d ∈ tables_1, d.before a0 Z = true) (ws : List Jvm.Cond) (m : Addr) (h0 : Heap) (n0 : Nat) (Z0 : n0 ≤ h0.size) (F_size_m : Fld Z h0 m "java/util/HashMap" "size" "I" (.int (0 : Int32))) :
    MetFree lL (⟨"java/util/HashMap", "size", "()I"⟩ : MethodName) (head1 (Jvm.Cond.code (⟨"java/util/HashMap", "size", "()I"⟩ : MethodName) jdk_69_method_10_code 1 (some .int) :: ws) ({ frames := 0, cells := 0, slots := 0, locals := 0 } : Room)) (fun a_ U_ => a_ = #[(.ref m)] ∧ Z.Warmed39 U_.vm ∧ U_.heap = h0) (fun _ _ _ _ _ => True) (fun _ U_ o_ W_ => ∃ v_ L_, o_ = .returned v_ ∧ own_QI (0 : Int32) h0 n0 v_ W_.heap L_ ∧ FrameEnd U_ o_ W_ L_ ({ frames := 0, cells := 0, slots := 0, locals := 0 } : Room).cells ({ frames := 0, cells := 0, slots := 0, locals := 0 } : Room).slots) := by
  refine MetFree.of_bodySF (plainFor_of_name pn_ms) hisR ?_
  intro pP eE sS mI args below meth cC s₁ Bd hml0 hP hK
  obtain ⟨rfl, hZ, hh⟩ := hP
  have hx := Bd.exec
  have hby := Bd.bytes
  have hml : cC.maxLocals = 1 := hml0
  have hown : sS.vm.findClass "java/util/HashMap" = some mI.cls := by have z := findClass_of_methodNamed Bd.named; exact z
  have hnm := (name_of_methodNamed Bd.named Bd.method).1
  have X0 : Stand pP lL eE ({ frames := 0, cells := 0, slots := 0, locals := 0 } : Room) sS mI #[(.ref m)] below meth cC s₁ [] 0 0 := Stand.of_body Bd
  have e0 : s₁.heap = h0 := by rw [← hh, Bd.state]; rfl
  have N0 := Fr.nil n0
  obtain ⟨G, hG, hst, hend⟩ := own_abs pP eE below sS (own_QI (0 : Int32) h0 n0) ({ frames := 0, cells := 0, slots := 0, locals := 0 } : Room).cells ({ frames := 0, cells := 0, slots := 0, locals := 0 } : Room).slots
  refine hG (S := s₁.setTop (entryFrame mI #[(.ref m)] 1)) (hst (fun t_ kt_ => castTop (ef_ms mI m) kt_) ?_)
  show G (s₁.setTop (mkF mI 0 #[.val (.ref m)] []))
  refine o_aloadN hst X0.here hx (hb hby dms_0) (pc' := 1) rfl rfl rfl ?_
  obtain ⟨T_1, X_1, e_1, st_1⟩ := getF X0 hx hZ hown (host := "") (Or.inl (own_w214 hw)) Via.refl e0 F_size_m (g := (mkF mI 1 #[.val (.ref m)] [(.ref m)])) rfl rfl (hb hby dms_1)
  refine hst st_1 ?_
  show G (T_1.setTop (mkF mI 4 #[.val (.ref m)] [(.int (0 : Int32))]))
  exact hend (own_goRet X_1 hx Bd.returns rfl (Or.inl ⟨rfl, by simp, _, rfl⟩) (hb hby dms_4) Bd.notSynchronized (by rw [e_1]; exact ⟨rfl, N0, rfl⟩) (by decide) (by decide))
theorem dss_0 : decode jdk_93_method_7_code 0 = .ok (.aload_n 0, 1) := by decide +kernel
theorem dss_1 : decode jdk_93_method_7_code 1 = .ok (.getfield 10, 3) := by decide +kernel
theorem dss_4 : decode jdk_93_method_7_code 4 = .ok (.invokevirtual 55, 3) := by decide +kernel
theorem dss_7 : decode jdk_93_method_7_code 7 = .ok (.ireturn, 1) := by decide +kernel
theorem ef_ss (mI : MethodId) (s : Addr) : entryFrame mI #[(.ref s)] 1 = mkF mI 0 #[.val (.ref s)] [] := by first | (simp [entryFrame, mkF, argsToLocals, Value.category]; done) | rfl
theorem pn_ss : plainName "java/util/HashSet" = true := by first | decide +kernel | (simp [plainName, overriddenIn]; done)
set_option maxRecDepth 65536 in
set_option maxHeartbeats 40000000 in
theorem rmss (lL : Launch) (Z : State) (a0 : Array Value) (hw : ∀ d ∈ tables_1, d.before a0 Z = true) (ws : List Jvm.Cond) (s : Addr) (m : Addr) (h0 : Heap) (n0 : Nat) (Z0 : n0 ≤ h0.size) (F_map_s : Fld Z h0 s "java/util/HashSet" "map" "Ljava/util/HashMap;" (.ref m)) (E_m : Exa Z h0 m "java/util/LinkedHashMap") (F_size_m : Fld Z h0 m "java/util/HashMap" "size" "I" (.int (0 : Int32))) :
    MetFree lL (⟨"java/util/HashSet", "size", "()I"⟩ : MethodName) (head1 (Jvm.Cond.code (⟨"java/util/HashSet", "size", "()I"⟩ : MethodName) jdk_93_method_7_code 1 (some .int) :: ws) ({ frames := 1, cells := 0, slots := 0, locals := 12 } : Room)) (fun a_ U_ => a_ = #[(.ref s)] ∧ Z.Warmed39 U_.vm ∧ U_.heap = h0) (fun _ _ _ _ _ => True) (fun _ U_ o_ W_ => ∃ v_ L_, o_ = .returned v_ ∧ own_QI (0 : Int32) h0 n0 v_ W_.heap L_ ∧ FrameEnd U_ o_ W_ L_ ({ frames := 1, cells := 0, slots := 0, locals := 12 } : Room).cells ({ frames := 1, cells := 0, slots := 0, locals := 12 } : Room).slots) := by
  refine MetFree.of_bodySF (plainFor_of_name pn_ss) hisR ?_
  intro pP eE sS mI args below meth cC s₁ Bd hml0 hP hK
  obtain ⟨rfl, hZ, hh⟩ := hP
  have hx := Bd.exec
  have hby := Bd.bytes
  have hml : cC.maxLocals = 1 := hml0
  have hown : sS.vm.findClass "java/util/HashSet" = some mI.cls := by have z := findClass_of_methodNamed Bd.named; exact z
  have hnm := (name_of_methodNamed Bd.named Bd.method).1
  have X0 : Stand pP lL eE ({ frames := 1, cells := 0, slots := 0, locals := 12 } : Room) sS mI #[(.ref s)] below meth cC s₁ [] 0 0 := Stand.of_body Bd
  have e0 : s₁.heap = h0 := by rw [← hh, Bd.state]; rfl
  have N0 := Fr.nil n0
  obtain ⟨G, hG, hst, hend⟩ := own_abs pP eE below sS (own_QI (0 : Int32) h0 n0) ({ frames := 1, cells := 0, slots := 0, locals := 12 } : Room).cells ({ frames := 1, cells := 0, slots := 0, locals := 12 } : Room).slots
  refine hG (S := s₁.setTop (entryFrame mI #[(.ref s)] 1)) (hst (fun t_ kt_ => castTop (ef_ss mI s) kt_) ?_)
  show G (s₁.setTop (mkF mI 0 #[.val (.ref s)] []))
  refine o_aloadN hst X0.here hx (hb hby dss_0) (pc' := 1) rfl rfl rfl ?_
  obtain ⟨T_1, X_1, e_1, st_1⟩ := getF X0 hx hZ hown (host := "") (Or.inl (own_w112 hw)) Via.refl e0 F_map_s (g := (mkF mI 1 #[.val (.ref s)] [(.ref s)])) rfl rfl (hb hby dss_1)
  refine hst st_1 ?_
  show G (T_1.setTop (mkF mI 4 #[.val (.ref s)] [(.ref m)]))
  obtain ⟨cq_2, kq_2, q_2a, q_2b, q_2c⟩ := isOf hZ e_1 E_m
  obtain ⟨_, _, ⟨T_2, L_2, k_2, n_2⟩, -, X_2, ⟨Lc_2, hQ_2, l_2, y_2, z_2⟩, st_2⟩ := X_1.virtualBack hx (y := (⟨"java/util/HashMap", "size", "()I"⟩ : MethodName)) (z := (⟨"java/util/HashMap", "size", "()I"⟩ : MethodName)) hown (mvT hZ (own_w209 hw)) (mvT hZ (own_w210 hw)) (notFace_of_selects (args := #[]) (mvT hZ (own_w212 hw))) (mvT hZ (own_w212 hw)) (mvT hZ (own_w211 hw)) (by decide) (backOf (W := 0) (rmms lL Z a0 hw [] m  h0 n0 Z0 F_size_m) hZ (own_w213 hw) (own_w82 hw) (by decide) (by decide)) q_2a q_2c (g := (mkF mI 4 #[.val (.ref s)] [(.ref m)])) rfl (by rw [hml]; rfl) (Steps.refl _) (argsL := []) (rest := []) (lenOf pd_7 rfl) rfl (by show 2 * 0 + _ ≤ _; exact Nat.le_of_eq rfl) (hb hby dss_4) (fun _ _ => ⟨rfl, e_1, (by decide : 0 + 0 ≤ _), (by decide : 0 + 0 ≤ _)⟩)
  dsimp only [Pt.U, Pt.locs, Pt.cells, Pt.slots] at X_2 l_2 y_2 z_2 st_2 hQ_2
  subst l_2 y_2 z_2
  obtain ⟨rfl, N_2q, eh_2⟩ := hQ_2
  have N_2 := Fr.app N0 N_2q
  refine hst (fun _ kt => st_2.trans kt) ?_
  show G (T_2.setTop (mkF mI 7 #[.val (.ref s)] [(.int (0 : Int32))]))
  exact hend (own_goRet X_2 hx Bd.returns rfl (Or.inl ⟨rfl, by simp, _, rfl⟩) (hb hby dss_7) Bd.notSynchronized (by rw [eh_2]; exact ⟨rfl, N_2, rfl⟩) (by decide) (by decide))
def own_Qki (Z : State) (ks m : Addr) (h0 : Heap) (n0 : Nat) (v : Option Value) (h : Heap) (L : List Loc) : Prop := v = none ∧ Fr n0 L ∧ Keep h0 h [ks] ∧ Exa Z h ks "java/util/LinkedHashMap$LinkedKeySet" ∧ Fld Z h ks "java/util/LinkedHashMap$LinkedKeySet" "this$0" "Ljava/util/LinkedHashMap;" (.ref m) ∧ Fld Z h ks "java/util/LinkedHashMap$LinkedKeySet" "reversed" "Z" (.int (0 : Int32))
theorem dki_0 : decode jdk_112_method_1_code 0 = .ok (.aload_n 0, 1) := by decide +kernel
theorem dki_1 : decode jdk_112_method_1_code 1 = .ok (.aload_n 1, 1) := by decide +kernel
theorem dki_2 : decode jdk_112_method_1_code 2 = .ok (.putfield 1, 3) := by decide +kernel
theorem dki_5 : decode jdk_112_method_1_code 5 = .ok (.aload_n 0, 1) := by decide +kernel
theorem dki_6 : decode jdk_112_method_1_code 6 = .ok (.invokespecial 7, 3) := by decide +kernel
theorem dki_9 : decode jdk_112_method_1_code 9 = .ok (.aload_n 0, 1) := by decide +kernel
theorem dki_10 : decode jdk_112_method_1_code 10 = .ok (.iload_n 2, 1) := by decide +kernel
theorem dki_11 : decode jdk_112_method_1_code 11 = .ok (.putfield 13, 3) := by decide +kernel
theorem dki_14 : decode jdk_112_method_1_code 14 = .ok (.return_, 1) := by decide +kernel
theorem ef_ki (mI : MethodId) (ks : Addr) (m : Addr) : entryFrame mI #[(.ref ks), (.ref m), (.int (0 : Int32))] 3 = mkF mI 0 #[.val (.ref ks), .val (.ref m), .val (.int (0 : Int32))] [] := by first | (simp [entryFrame, mkF, argsToLocals, Value.category]; done) | rfl
theorem pn_ki : plainName "java/util/LinkedHashMap$LinkedKeySet" = true := by first | decide +kernel | (simp [plainName, overriddenIn]; done)
set_option maxRecDepth 65536 in
set_option maxHeartbeats 40000000 in
theorem rmki (lL : Launch) (Z : State) (a0 : Array Value) (hw : ∀ d ∈ tables_1, d.before a0 Z = true) (ws : List Jvm.Cond) (ks : Addr) (m : Addr) (h0 : Heap) (n0 : Nat) (Z0 : n0 ≤ h0.size) (F_this_0_ks : Fld Z h0 ks "java/util/LinkedHashMap$LinkedKeySet" "this$0" "Ljava/util/LinkedHashMap;" .null) (F_reversed_ks : Fld Z h0 ks "java/util/LinkedHashMap$LinkedKeySet" "reversed" "Z" (.int (0 : Int32))) (E_ks : Exa Z h0 ks "java/util/LinkedHashMap$LinkedKeySet") (le_n0_ks : n0 ≤ ks) :
    MetFree lL (⟨"java/util/LinkedHashMap$LinkedKeySet", "<init>", "(Ljava/util/LinkedHashMap;Z)V"⟩ : MethodName) (head1 (Jvm.Cond.code (⟨"java/util/LinkedHashMap$LinkedKeySet", "<init>", "(Ljava/util/LinkedHashMap;Z)V"⟩ : MethodName) jdk_112_method_1_code 3 none :: ws) ({ frames := 3, cells := 0, slots := 0, locals := 36 } : Room)) (fun a_ U_ => a_ = #[(.ref ks), (.ref m), (.int (0 : Int32))] ∧ Z.Warmed39 U_.vm ∧ U_.heap = h0) (fun _ _ _ _ _ => True) (fun _ U_ o_ W_ => ∃ v_ L_, o_ = .returned v_ ∧ own_Qki Z ks m h0 n0 v_ W_.heap L_ ∧ FrameEnd U_ o_ W_ L_ ({ frames := 3, cells := 0, slots := 0, locals := 36 } : Room).cells ({ frames := 3, cells := 0, slots := 0, locals := 36 } : Room).slots) := by
  refine MetFree.of_bodySF (plainFor_of_name pn_ki) hisR ?_
  intro pP eE sS mI args below meth cC s₁ Bd hml0 hP hK
  obtain ⟨rfl, hZ, hh⟩ := hP
  have hx := Bd.exec
  have hby := Bd.bytes
  have hml : cC.maxLocals = 3 := hml0
  have hown : sS.vm.findClass "java/util/LinkedHashMap$LinkedKeySet" = some mI.cls := by have z := findClass_of_methodNamed Bd.named; exact z
  have hnm := (name_of_methodNamed Bd.named Bd.method).1
  have X0 : Stand pP lL eE ({ frames := 3, cells := 0, slots := 0, locals := 36 } : Room) sS mI #[(.ref ks), (.ref m), (.int (0 : Int32))] below meth cC s₁ [] 0 0 := Stand.of_body Bd
  have e0 : s₁.heap = h0 := by rw [← hh, Bd.state]; rfl
  have N0 := Fr.nil n0
  obtain ⟨G, hG, hst, hend⟩ := own_abs pP eE below sS (own_Qki Z ks m h0 n0) ({ frames := 3, cells := 0, slots := 0, locals := 36 } : Room).cells ({ frames := 3, cells := 0, slots := 0, locals := 36 } : Room).slots
  refine hG (S := s₁.setTop (entryFrame mI #[(.ref ks), (.ref m), (.int (0 : Int32))] 3)) (hst (fun t_ kt_ => castTop (ef_ki mI ks m) kt_) ?_)
  have Z1 := Nat.le_refl h0.size
  have K0 := Keep.refl h0 [ks]
  show G (s₁.setTop (mkF mI 0 #[.val (.ref ks), .val (.ref m), .val (.int (0 : Int32))] []))
  refine o_aloadN hst X0.here hx (hb hby dki_0) (pc' := 1) rfl rfl rfl ?_
  refine o_aloadN hst X0.here hx (hb hby dki_1) (pc' := 2) rfl rfl rfl ?_
  obtain ⟨T_1, h_1, X_1, e_1, W_1, st_1⟩ := putF X0 hx hZ hown (host := "") (Or.inl (own_w245 hw)) Via.refl e0 F_this_0_ks E_ks (Or.inr ⟨(own_w246 hw), rfl, hnm⟩) (own_w239 hw) (ty := (.object "java/util/LinkedHashMap")) (by decide) rfl rfl (g := (mkF mI 2 #[.val (.ref ks), .val (.ref m), .val (.int (0 : Int32))] [(.ref m), (.ref ks)])) rfl rfl (hb hby dki_2)
  have Z0 := Nat.le_trans Z0 (Keep.of_wr W_1).1
  have Z1 := Nat.le_trans Z1 (Keep.of_wr W_1).1
  have K0 := K0.wr W_1 (Or.inl (List.mem_of_getElem? (i := 0) rfl))
  have F_this_0_ks := F_this_0_ks.same W_1
  have F_reversed_ks := F_reversed_ks.other W_1 (Or.inr (slot_ne (Or.inr (own_w251 hw)) (Or.inr (own_w246 hw)) (by decide) (t := .boolean) (t' := (.object "java/util/LinkedHashMap")) (by decide) (by decide)))
  have E_ks := E_ks.wr W_1
  have N_1 := Fr.snoc X_1 N0 le_n0_ks
  refine hst st_1 ?_
  show G (T_1.setTop (mkF mI 5 #[.val (.ref ks), .val (.ref m), .val (.int (0 : Int32))] []))
  refine o_aloadN hst X_1.here hx (hb hby dki_5) (pc' := 6) rfl rfl rfl ?_
  obtain ⟨_, _, ⟨T_2, L_2, k_2, n_2⟩, -, X_2, ⟨Lc_2, hQ_2, l_2, y_2, z_2⟩, st_2⟩ := X_1.specialBack hx (y := (⟨"java/util/AbstractSet", "<init>", "()V"⟩ : MethodName)) rfl hown (mvT hZ (own_w247 hw)) (mvT hZ (own_w59 hw)) (mvT hZ (own_w63 hw)) (by decide) (backOf (W := 0) (rmAS lL Z a0 hw [] ks  h_1 n0 Z0) hZ (own_w63 hw) (own_w62 hw) (by decide) (by decide)) (g := (mkF mI 6 #[.val (.ref ks), .val (.ref m), .val (.int (0 : Int32))] [(.ref ks)])) rfl (by rw [hml]; rfl) (Steps.refl _) (a := ks) (argsL := []) (rest := []) (lenOf pd_0 rfl) rfl (by show 2 * 0 + _ ≤ _; exact Nat.le_of_eq rfl) (hb hby dki_6) (fun _ _ => ⟨rfl, e_1, (by decide : 0 + 0 ≤ _), (by decide : 0 + 0 ≤ _)⟩)
  dsimp only [Pt.U, Pt.locs, Pt.cells, Pt.slots] at X_2 l_2 y_2 z_2 st_2 hQ_2
  subst l_2 y_2 z_2
  obtain ⟨rfl, N_2q, eh_2⟩ := hQ_2
  have N_2 := Fr.app N_1 N_2q
  refine hst (fun _ kt => st_2.trans kt) ?_
  show G (T_2.setTop (mkF mI 9 #[.val (.ref ks), .val (.ref m), .val (.int (0 : Int32))] []))
  refine o_aloadN hst X_2.here hx (hb hby dki_9) (pc' := 10) rfl rfl rfl ?_
  refine o_iloadN hst X_2.here hx (hb hby dki_10) (pc' := 11) rfl rfl ?_
  obtain ⟨T_3, h_3, X_3, e_3, W_3, st_3⟩ := putFN X_2 hx hZ hown (own_w250 hw) Via.refl eh_2 F_reversed_ks E_ks (Or.inr ⟨(own_w251 hw), rfl, hnm⟩) (own_w239 hw) (ty := .boolean) (v' := (.int (0 : Int32))) (by decide) rfl rfl (g := (mkF mI 11 #[.val (.ref ks), .val (.ref m), .val (.int (0 : Int32))] [(.int (0 : Int32)), (.ref ks)])) rfl rfl (hb hby dki_11)
  have Z0 := Nat.le_trans Z0 (Keep.of_wr W_3).1
  have Z1 := Nat.le_trans Z1 (Keep.of_wr W_3).1
  have K0 := K0.wr W_3 (Or.inl (List.mem_of_getElem? (i := 0) rfl))
  have F_this_0_ks := F_this_0_ks.other W_3 (Or.inr (slot_ne (Or.inr (own_w246 hw)) (Or.inr (own_w251 hw)) (by decide) (t := (.object "java/util/LinkedHashMap")) (t' := .boolean) (by decide) (by decide)))
  have F_reversed_ks := F_reversed_ks.same W_3
  have E_ks := E_ks.wr W_3
  have N_3 := Fr.snoc X_3 N_2 le_n0_ks
  refine hst st_3 ?_
  show G (T_3.setTop (mkF mI 14 #[.val (.ref ks), .val (.ref m), .val (.int (0 : Int32))] []))
  exact hend (own_goVoid X_3 hx Bd.returns (hb hby dki_14) Bd.notSynchronized (by rw [e_3]; exact ⟨rfl, N_3, K0, E_ks, F_this_0_ks, F_reversed_ks⟩) (by decide) (by decide))
def own_Qsk (Z : State) (m : Addr) (h0 : Heap) (n0 : Nat) (v : Option Value) (h : Heap) (L : List Loc) : Prop := ∃ ks : Addr, v = some (.ref ks) ∧ Fr n0 L ∧ Keep h0 h [m] ∧ h0.size ≤ ks ∧ Fld Z h m "java/util/HashMap" "size" "I" (.int (0 : Int32)) ∧ Fld Z h m "java/util/AbstractMap" "keySet" "Ljava/util/Set;" (.ref ks) ∧ Fld Z h m "java/util/LinkedHashMap" "head" "Ljava/util/LinkedHashMap$Entry;" .null ∧ Fld Z h m "java/util/HashMap" "modCount" "I" (.int (0 : Int32)) ∧ Exa Z h ks "java/util/LinkedHashMap$LinkedKeySet" ∧ Fld Z h ks "java/util/LinkedHashMap$LinkedKeySet" "this$0" "Ljava/util/LinkedHashMap;" (.ref m) ∧ Fld Z h ks "java/util/LinkedHashMap$LinkedKeySet" "reversed" "Z" (.int (0 : Int32))
theorem dsk_0 : decode jdk_94_method_25_code 0 = .ok (.aload_n 0, 1) := by decide +kernel
theorem dsk_1 : decode jdk_94_method_25_code 1 = .ok (.getfield 117, 3) := by decide +kernel
theorem dsk_4 : decode jdk_94_method_25_code 4 = .ok (.astore_n 1, 1) := by decide +kernel
theorem dsk_5 : decode jdk_94_method_25_code 5 = .ok (.aload_n 1, 1) := by decide +kernel
theorem dsk_6 : decode jdk_94_method_25_code 6 = .ok (.ifnonnull 20, 3) := by decide +kernel
theorem dsk_9 : decode jdk_94_method_25_code 9 = .ok (.new 121, 3) := by decide +kernel
theorem dsk_12 : decode jdk_94_method_25_code 12 = .ok (.dup, 1) := by decide +kernel
theorem dsk_13 : decode jdk_94_method_25_code 13 = .ok (.aload_n 0, 1) := by decide +kernel
theorem dsk_14 : decode jdk_94_method_25_code 14 = .ok (.iconst 0, 1) := by decide +kernel
theorem dsk_15 : decode jdk_94_method_25_code 15 = .ok (.invokespecial 123, 3) := by decide +kernel
theorem dsk_18 : decode jdk_94_method_25_code 18 = .ok (.astore_n 2, 1) := by decide +kernel
theorem dsk_19 : decode jdk_94_method_25_code 19 = .ok (.aload_n 0, 1) := by decide +kernel
theorem dsk_20 : decode jdk_94_method_25_code 20 = .ok (.aload_n 2, 1) := by decide +kernel
theorem dsk_21 : decode jdk_94_method_25_code 21 = .ok (.putfield 117, 3) := by decide +kernel
theorem dsk_24 : decode jdk_94_method_25_code 24 = .ok (.aload_n 2, 1) := by decide +kernel
theorem dsk_25 : decode jdk_94_method_25_code 25 = .ok (.areturn, 1) := by decide +kernel
theorem ef_sk (mI : MethodId) (m : Addr) : entryFrame mI #[(.ref m)] 3 = mkF mI 0 #[.val (.ref m), .unset, .unset] [] := by first | (simp [entryFrame, mkF, argsToLocals, Value.category]; done) | rfl
theorem pn_sk : plainName "java/util/LinkedHashMap" = true := by first | decide +kernel | (simp [plainName, overriddenIn]; done)
set_option maxRecDepth 65536 in
set_option maxHeartbeats 40000000 in
theorem rmsk (lL : Launch) (Z : State) (a0 : Array Value) (hw : ∀ d ∈ tables_1, d.before a0 Z = true) (ws : List Jvm.Cond) (m : Addr) (h0 : Heap) (n0 : Nat) (Z0 : n0 ≤ h0.size) (F_size_m : Fld Z h0 m "java/util/HashMap" "size" "I" (.int (0 : Int32))) (F_keySet_m : Fld Z h0 m "java/util/AbstractMap" "keySet" "Ljava/util/Set;" .null) (F_head_m : Fld Z h0 m "java/util/LinkedHashMap" "head" "Ljava/util/LinkedHashMap$Entry;" .null) (F_modCount_m : Fld Z h0 m "java/util/HashMap" "modCount" "I" (.int (0 : Int32))) (E_m : Exa Z h0 m "java/util/LinkedHashMap") (le_n0_m : n0 ≤ m) :
    MetFree lL (⟨"java/util/LinkedHashMap", "sequencedKeySet", "()Ljava/util/SequencedSet;"⟩ : MethodName) (head1 (Jvm.Cond.code (⟨"java/util/LinkedHashMap", "sequencedKeySet", "()Ljava/util/SequencedSet;"⟩ : MethodName) jdk_94_method_25_code 3 (some (.object "java/util/SequencedSet")) :: ws) ({ frames := 4, cells := 1, slots := 2, locals := 51 } : Room)) (fun a_ U_ => a_ = #[(.ref m)] ∧ Z.Warmed39 U_.vm ∧ U_.heap = h0) (fun _ _ _ _ _ => True) (fun _ U_ o_ W_ => ∃ v_ L_, o_ = .returned v_ ∧ own_Qsk Z m h0 n0 v_ W_.heap L_ ∧ FrameEnd U_ o_ W_ L_ ({ frames := 4, cells := 1, slots := 2, locals := 51 } : Room).cells ({ frames := 4, cells := 1, slots := 2, locals := 51 } : Room).slots) := by
  refine MetFree.of_bodySF (plainFor_of_name pn_sk) hisR ?_
  intro pP eE sS mI args below meth cC s₁ Bd hml0 hP hK
  obtain ⟨rfl, hZ, hh⟩ := hP
  have hx := Bd.exec
  have hby := Bd.bytes
  have hml : cC.maxLocals = 3 := hml0
  have hown : sS.vm.findClass "java/util/LinkedHashMap" = some mI.cls := by have z := findClass_of_methodNamed Bd.named; exact z
  have hnm := (name_of_methodNamed Bd.named Bd.method).1
  have X0 : Stand pP lL eE ({ frames := 4, cells := 1, slots := 2, locals := 51 } : Room) sS mI #[(.ref m)] below meth cC s₁ [] 0 0 := Stand.of_body Bd
  have e0 : s₁.heap = h0 := by rw [← hh, Bd.state]; rfl
  have N0 := Fr.nil n0
  obtain ⟨G, hG, hst, hend⟩ := own_abs pP eE below sS (own_Qsk Z m h0 n0) ({ frames := 4, cells := 1, slots := 2, locals := 51 } : Room).cells ({ frames := 4, cells := 1, slots := 2, locals := 51 } : Room).slots
  refine hG (S := s₁.setTop (entryFrame mI #[(.ref m)] 3)) (hst (fun t_ kt_ => castTop (ef_sk mI m) kt_) ?_)
  have Z1 := Nat.le_refl h0.size
  have K0 := Keep.refl h0 [m]
  show G (s₁.setTop (mkF mI 0 #[.val (.ref m), .unset, .unset] []))
  refine o_aloadN hst X0.here hx (hb hby dsk_0) (pc' := 1) rfl rfl rfl ?_
  obtain ⟨T_1, X_1, e_1, st_1⟩ := getF X0 hx hZ hown (host := "") (Or.inl (own_w235 hw)) (Via.of (own_w236 hw)) e0 F_keySet_m (g := (mkF mI 1 #[.val (.ref m), .unset, .unset] [(.ref m)])) rfl rfl (hb hby dsk_1)
  refine hst st_1 ?_
  show G (T_1.setTop (mkF mI 4 #[.val (.ref m), .unset, .unset] [.null]))
  refine o_astoreN hst X_1.here hx (hb hby dsk_4) (pc' := 5) rfl (Lt := #[.val (.ref m), .val .null, .unset]) rfl rfl ?_
  refine o_aloadN hst X_1.here hx (hb hby dsk_5) (pc' := 6) rfl rfl rfl ?_
  refine hst (fun _ kt => XS.ifnonnullNo X_1.here hx rfl (hb hby dsk_6) rfl kt) ?_
  show G (T_1.setTop (mkF mI 9 #[.val (.ref m), .val .null, .unset] []))
  obtain ⟨T_2, h_2, X_2, e_2, E_2, A_2, D_2, -, st_2⟩ := newO X_1 hx hZ hown (own_w238 hw) (own_w239 hw) (own_w240 hw) e_1 (g := (mkF mI 9 #[.val (.ref m), .val .null, .unset] [])) rfl (hb hby dsk_9) (by decide) (by decide)
  obtain ⟨ks, g_ks⟩ : ∃ z, z = h0.size := ⟨_, rfl⟩
  rw [← g_ks] at A_2 D_2 st_2
  have ne_m_ks : m ≠ ks := Nat.ne_of_lt (Nat.lt_of_lt_of_le F_size_m.lt (Nat.le_of_eq g_ks.symm))
  have le_n0_ks : n0 ≤ ks := Nat.le_trans Z0 (Nat.le_of_eq g_ks.symm)
  have le_hh_ks : h0.size ≤ ks := Nat.le_trans Z1 (Nat.le_of_eq g_ks.symm)
  have Z0 := Nat.le_trans Z0 E_2.1
  have Z1 := Nat.le_trans Z1 E_2.1
  have K0 := K0.ext E_2
  have F_size_m := F_size_m.ext E_2
  have F_keySet_m := F_keySet_m.ext E_2
  have F_head_m := F_head_m.ext E_2
  have F_modCount_m := F_modCount_m.ext E_2
  have E_m := E_m.ext E_2
  have E_ks : Exa Z h_2 ks "java/util/LinkedHashMap$LinkedKeySet" := A_2
  have F_this_0_ks : Fld Z h_2 ks "java/util/LinkedHashMap$LinkedKeySet" "this$0" "Ljava/util/LinkedHashMap;" .null := D_2 (Or.inr (own_w246 hw)) (ty := (.object "java/util/LinkedHashMap")) (by decide)
  have F_reversed_ks : Fld Z h_2 ks "java/util/LinkedHashMap$LinkedKeySet" "reversed" "Z" (.int (0 : Int32)) := D_2 (Or.inr (own_w251 hw)) (ty := .boolean) (by decide)
  refine hst st_2 ?_
  show G (T_2.setTop (mkF mI 12 #[.val (.ref m), .val .null, .unset] [(.ref ks)]))
  refine o_dup hst X_2.here hx (hb hby dsk_12) (pc' := 13) rfl rfl ?_
  refine o_aloadN hst X_2.here hx (hb hby dsk_13) (pc' := 14) rfl rfl rfl ?_
  refine o_iconst hst X_2.here hx (hb hby dsk_14) (pc' := 15) rfl (z := (0 : Int32)) rfl ?_
  obtain ⟨_, _, ⟨T_3, L_3, k_3, n_3⟩, -, X_3, ⟨Lc_3, hQ_3, l_3, y_3, z_3⟩, st_3⟩ := X_2.specialBack hx (y := (⟨"java/util/LinkedHashMap$LinkedKeySet", "<init>", "(Ljava/util/LinkedHashMap;Z)V"⟩ : MethodName)) rfl hown (mvT hZ (own_w241 hw)) (mvT hZ (own_w242 hw)) (mvT hZ (own_w244 hw)) (by decide) (backOf (W := 1) (rmki lL Z a0 hw [] ks m  h_2 n0 Z0 F_this_0_ks F_reversed_ks E_ks le_n0_ks) hZ (own_w244 hw) (own_w240 hw) (by decide) (by decide)) (g := (mkF mI 15 #[.val (.ref m), .val .null, .unset] [(.int (0 : Int32)), (.ref m), (.ref ks), (.ref ks)])) rfl (by rw [hml]; rfl) (Steps.refl _) (a := ks) (argsL := [(.ref m), (.int (0 : Int32))]) (rest := [(.ref ks)]) (lenOf pd_8 rfl) rfl (by show 2 * 0 + _ ≤ _; exact Nat.le_of_eq rfl) (hb hby dsk_15) (fun _ _ => ⟨rfl, e_2, (by decide : 1 + 0 ≤ _), (by decide : 2 + 0 ≤ _)⟩)
  dsimp only [Pt.U, Pt.locs, Pt.cells, Pt.slots] at X_3 l_3 y_3 z_3 st_3 hQ_3
  subst l_3 y_3 z_3
  obtain ⟨rfl, N_3q, K_3, Ex_3, G1, G2⟩ := hQ_3
  have Z0 := Nat.le_trans Z0 K_3.1
  have Z1 := Nat.le_trans Z1 K_3.1
  have K0 := K0.trans K_3 (allS (Or.inr le_hh_ks) all0)
  have F_size_m := F_size_m.keep K_3 (ninS ne_m_ks nin0)
  have F_keySet_m := F_keySet_m.keep K_3 (ninS ne_m_ks nin0)
  have F_head_m := F_head_m.keep K_3 (ninS ne_m_ks nin0)
  have F_modCount_m := F_modCount_m.keep K_3 (ninS ne_m_ks nin0)
  have E_m := E_m.keep K_3
  have E_ks := E_ks.keep K_3
  have F_this_0_ks := G1
  have F_reversed_ks := G2
  have N_3 := Fr.app N0 N_3q
  refine hst (fun _ kt => st_3.trans kt) ?_
  show G (T_3.setTop (mkF mI 18 #[.val (.ref m), .val .null, .unset] [(.ref ks)]))
  refine o_astoreN hst X_3.here hx (hb hby dsk_18) (pc' := 19) rfl (Lt := #[.val (.ref m), .val .null, .val (.ref ks)]) rfl rfl ?_
  refine o_aloadN hst X_3.here hx (hb hby dsk_19) (pc' := 20) rfl rfl rfl ?_
  refine o_aloadN hst X_3.here hx (hb hby dsk_20) (pc' := 21) rfl rfl rfl ?_
  obtain ⟨T_4, h_4, X_4, e_4, W_4, st_4⟩ := putF X_3 hx hZ hown (host := "") (Or.inl (own_w235 hw)) (Via.of (own_w236 hw)) rfl F_keySet_m E_m (Or.inl (own_w237 hw)) (own_w72 hw) (ty := (.object "java/util/Set")) (by decide) rfl rfl (g := (mkF mI 21 #[.val (.ref m), .val .null, .val (.ref ks)] [(.ref ks), (.ref m)])) rfl rfl (hb hby dsk_21)
  have Z0 := Nat.le_trans Z0 (Keep.of_wr W_4).1
  have Z1 := Nat.le_trans Z1 (Keep.of_wr W_4).1
  have K0 := K0.wr W_4 (Or.inl (List.mem_of_getElem? (i := 0) rfl))
  have F_size_m := F_size_m.other W_4 (Or.inr (slot_ne (Or.inl (own_w215 hw)) (Or.inl (own_w237 hw)) (by decide) (t := .int) (t' := (.object "java/util/Set")) (by decide) (by decide)))
  have F_keySet_m := F_keySet_m.same W_4
  have F_head_m := F_head_m.other W_4 (Or.inr (slot_ne (Or.inl (own_w278 hw)) (Or.inl (own_w237 hw)) (by decide) (t := (.object "java/util/LinkedHashMap$Entry")) (t' := (.object "java/util/Set")) (by decide) (by decide)))
  have F_modCount_m := F_modCount_m.other W_4 (Or.inr (slot_ne (Or.inl (own_w283 hw)) (Or.inl (own_w237 hw)) (by decide) (t := .int) (t' := (.object "java/util/Set")) (by decide) (by decide)))
  have E_m := E_m.wr W_4
  have E_ks := E_ks.wr W_4
  have F_this_0_ks := F_this_0_ks.other W_4 (Or.inl (Ne.symm ne_m_ks))
  have F_reversed_ks := F_reversed_ks.other W_4 (Or.inl (Ne.symm ne_m_ks))
  have N_4 := Fr.snoc X_4 N_3 le_n0_m
  refine hst st_4 ?_
  show G (T_4.setTop (mkF mI 24 #[.val (.ref m), .val .null, .val (.ref ks)] []))
  refine o_aloadN hst X_4.here hx (hb hby dsk_24) (pc' := 25) rfl rfl rfl ?_
  exact hend (own_goRet X_4 hx Bd.returns rfl (Or.inr (Or.inr (Or.inr (Or.inr ⟨rfl, rfl, rfl⟩)))) (hb hby dsk_25) Bd.notSynchronized (by rw [e_4]; exact ⟨ks, rfl, N_4, K0, le_hh_ks, F_size_m, F_keySet_m, F_head_m, F_modCount_m, E_ks, F_this_0_ks, F_reversed_ks⟩) (by decide) (by decide))
theorem dkk_0 : decode jdk_94_method_24_code 0 = .ok (.aload_n 0, 1) := by decide +kernel
theorem dkk_1 : decode jdk_94_method_24_code 1 = .ok (.invokevirtual 113, 3) := by decide +kernel
theorem dkk_4 : decode jdk_94_method_24_code 4 = .ok (.areturn, 1) := by decide +kernel
theorem ef_kk (mI : MethodId) (m : Addr) : entryFrame mI #[(.ref m)] 1 = mkF mI 0 #[.val (.ref m)] [] := by first | (simp [entryFrame, mkF, argsToLocals, Value.category]; done) | rfl
theorem pn_kk : plainName "java/util/LinkedHashMap" = true := by first | decide +kernel | (simp [plainName, overriddenIn]; done)
set_option maxRecDepth 65536 in
set_option maxHeartbeats 40000000 in
theorem rmkk (lL : Launch) (Z : State) (a0 : Array Value) (hw : ∀ d ∈ tables_1, d.before a0 Z = true) (ws : List Jvm.Cond) (m : Addr) (h0 : Heap) (n0 : Nat) (Z0 : n0 ≤ h0.size) (F_size_m : Fld Z h0 m "java/util/HashMap" "size" "I" (.int (0 : Int32))) (F_keySet_m : Fld Z h0 m "java/util/AbstractMap" "keySet" "Ljava/util/Set;" .null) (F_head_m : Fld Z h0 m "java/util/LinkedHashMap" "head" "Ljava/util/LinkedHashMap$Entry;" .null) (F_modCount_m : Fld Z h0 m "java/util/HashMap" "modCount" "I" (.int (0 : Int32))) (E_m : Exa Z h0 m "java/util/LinkedHashMap") (le_n0_m : n0 ≤ m) :
    MetFree lL (⟨"java/util/LinkedHashMap", "keySet", "()Ljava/util/Set;"⟩ : MethodName) (head1 (Jvm.Cond.code (⟨"java/util/LinkedHashMap", "keySet", "()Ljava/util/Set;"⟩ : MethodName) jdk_94_method_24_code 1 (some (.object "java/util/Set")) :: ws) ({ frames := 5, cells := 1, slots := 2, locals := 65 } : Room)) (fun a_ U_ => a_ = #[(.ref m)] ∧ Z.Warmed39 U_.vm ∧ U_.heap = h0) (fun _ _ _ _ _ => True) (fun _ U_ o_ W_ => ∃ v_ L_, o_ = .returned v_ ∧ own_Qsk Z m h0 n0 v_ W_.heap L_ ∧ FrameEnd U_ o_ W_ L_ ({ frames := 5, cells := 1, slots := 2, locals := 65 } : Room).cells ({ frames := 5, cells := 1, slots := 2, locals := 65 } : Room).slots) := by
  refine MetFree.of_bodySF (plainFor_of_name pn_kk) hisR ?_
  intro pP eE sS mI args below meth cC s₁ Bd hml0 hP hK
  obtain ⟨rfl, hZ, hh⟩ := hP
  have hx := Bd.exec
  have hby := Bd.bytes
  have hml : cC.maxLocals = 1 := hml0
  have hown : sS.vm.findClass "java/util/LinkedHashMap" = some mI.cls := by have z := findClass_of_methodNamed Bd.named; exact z
  have hnm := (name_of_methodNamed Bd.named Bd.method).1
  have X0 : Stand pP lL eE ({ frames := 5, cells := 1, slots := 2, locals := 65 } : Room) sS mI #[(.ref m)] below meth cC s₁ [] 0 0 := Stand.of_body Bd
  have e0 : s₁.heap = h0 := by rw [← hh, Bd.state]; rfl
  have N0 := Fr.nil n0
  obtain ⟨G, hG, hst, hend⟩ := own_abs pP eE below sS (own_Qsk Z m h0 n0) ({ frames := 5, cells := 1, slots := 2, locals := 65 } : Room).cells ({ frames := 5, cells := 1, slots := 2, locals := 65 } : Room).slots
  refine hG (S := s₁.setTop (entryFrame mI #[(.ref m)] 1)) (hst (fun t_ kt_ => castTop (ef_kk mI m) kt_) ?_)
  show G (s₁.setTop (mkF mI 0 #[.val (.ref m)] []))
  refine o_aloadN hst X0.here hx (hb hby dkk_0) (pc' := 1) rfl rfl rfl ?_
  obtain ⟨cq_1, kq_1, q_1a, q_1b, q_1c⟩ := isOf hZ e0 E_m
  obtain ⟨_, _, ⟨T_1, L_1, k_1, n_1⟩, -, X_1, ⟨Lc_1, hQ_1, l_1, y_1, z_1⟩, st_1⟩ := X0.virtualBack hx (y := (⟨"java/util/LinkedHashMap", "sequencedKeySet", "()Ljava/util/SequencedSet;"⟩ : MethodName)) (z := (⟨"java/util/LinkedHashMap", "sequencedKeySet", "()Ljava/util/SequencedSet;"⟩ : MethodName)) hown (mvT hZ (own_w230 hw)) (mvT hZ (own_w231 hw)) (notFace_of_selects (args := #[]) (mvT hZ (own_w233 hw))) (mvT hZ (own_w233 hw)) (mvT hZ (own_w232 hw)) (by decide) (backOf (W := 0) (rmsk lL Z a0 hw [] m  h0 n0 Z0 F_size_m F_keySet_m F_head_m F_modCount_m E_m le_n0_m) hZ (own_w234 hw) (own_w73 hw) (by decide) (by decide)) q_1a q_1c (g := (mkF mI 1 #[.val (.ref m)] [(.ref m)])) rfl (by rw [hml]; rfl) (Steps.refl _) (argsL := []) (rest := []) (lenOf pd_9 rfl) rfl (by show 2 * 0 + _ ≤ _; exact Nat.le_of_eq rfl) (hb hby dkk_1) (fun _ _ => ⟨rfl, e0, (by decide : 0 + 1 ≤ _), (by decide : 0 + 2 ≤ _)⟩)
  dsimp only [Pt.U, Pt.locs, Pt.cells, Pt.slots] at X_1 l_1 y_1 z_1 st_1 hQ_1
  subst l_1 y_1 z_1
  obtain ⟨ks, rfl, N_1q, R_1⟩ := hQ_1
  have N_1 := Fr.app N0 N_1q
  refine hst (fun _ kt => st_1.trans kt) ?_
  show G (T_1.setTop (mkF mI 4 #[.val (.ref m)] [(.ref ks)]))
  exact hend (own_goRet X_1 hx Bd.returns rfl (Or.inr (Or.inr (Or.inr (Or.inr ⟨rfl, rfl, rfl⟩)))) (hb hby dkk_4) Bd.notSynchronized (by exact ⟨ks, rfl, N_1, R_1⟩) (by decide) (by decide))
def own_Qit (Z : State) (it : Addr) (h0 : Heap) (n0 : Nat) (v : Option Value) (h : Heap) (L : List Loc) : Prop := v = none ∧ Fr n0 L ∧ Keep h0 h [it] ∧ Fld Z h it "java/util/LinkedHashMap$LinkedHashIterator" "next" "Ljava/util/LinkedHashMap$Entry;" .null
theorem dhi_0 : decode jdk_2616_method_1_code 0 = .ok (.aload_n 0, 1) := by decide +kernel
theorem dhi_1 : decode jdk_2616_method_1_code 1 = .ok (.aload_n 1, 1) := by decide +kernel
theorem dhi_2 : decode jdk_2616_method_1_code 2 = .ok (.putfield 1, 3) := by decide +kernel
theorem dhi_5 : decode jdk_2616_method_1_code 5 = .ok (.aload_n 0, 1) := by decide +kernel
theorem dhi_6 : decode jdk_2616_method_1_code 6 = .ok (.invokespecial 7, 3) := by decide +kernel
theorem dhi_9 : decode jdk_2616_method_1_code 9 = .ok (.aload_n 0, 1) := by decide +kernel
theorem dhi_10 : decode jdk_2616_method_1_code 10 = .ok (.iload_n 2, 1) := by decide +kernel
theorem dhi_11 : decode jdk_2616_method_1_code 11 = .ok (.putfield 13, 3) := by decide +kernel
theorem dhi_14 : decode jdk_2616_method_1_code 14 = .ok (.aload_n 0, 1) := by decide +kernel
theorem dhi_15 : decode jdk_2616_method_1_code 15 = .ok (.iload_n 2, 1) := by decide +kernel
theorem dhi_16 : decode jdk_2616_method_1_code 16 = .ok (.ifCond .eq 10, 3) := by decide +kernel
theorem dhi_26 : decode jdk_2616_method_1_code 26 = .ok (.aload_n 1, 1) := by decide +kernel
theorem dhi_27 : decode jdk_2616_method_1_code 27 = .ok (.getfield 23, 3) := by decide +kernel
theorem dhi_30 : decode jdk_2616_method_1_code 30 = .ok (.putfield 26, 3) := by decide +kernel
theorem dhi_33 : decode jdk_2616_method_1_code 33 = .ok (.aload_n 0, 1) := by decide +kernel
theorem dhi_34 : decode jdk_2616_method_1_code 34 = .ok (.aload_n 1, 1) := by decide +kernel
theorem dhi_35 : decode jdk_2616_method_1_code 35 = .ok (.getfield 29, 3) := by decide +kernel
theorem dhi_38 : decode jdk_2616_method_1_code 38 = .ok (.putfield 33, 3) := by decide +kernel
theorem dhi_41 : decode jdk_2616_method_1_code 41 = .ok (.aload_n 0, 1) := by decide +kernel
theorem dhi_42 : decode jdk_2616_method_1_code 42 = .ok (.aconst_null, 1) := by decide +kernel
theorem dhi_43 : decode jdk_2616_method_1_code 43 = .ok (.putfield 36, 3) := by decide +kernel
theorem dhi_46 : decode jdk_2616_method_1_code 46 = .ok (.return_, 1) := by decide +kernel
theorem ef_hi (mI : MethodId) (it : Addr) (m : Addr) : entryFrame mI #[(.ref it), (.ref m), (.int (0 : Int32))] 3 = mkF mI 0 #[.val (.ref it), .val (.ref m), .val (.int (0 : Int32))] [] := by first | (simp [entryFrame, mkF, argsToLocals, Value.category]; done) | rfl
theorem pn_hi : plainName "java/util/LinkedHashMap$LinkedHashIterator" = true := by first | decide +kernel | (simp [plainName, overriddenIn]; done)
set_option maxRecDepth 65536 in
set_option maxHeartbeats 40000000 in
theorem rmhi (lL : Launch) (Z : State) (a0 : Array Value) (hw : ∀ d ∈ tables_1, d.before a0 Z = true) (ws : List Jvm.Cond) (it : Addr) (m : Addr) (h0 : Heap) (n0 : Nat) (Z0 : n0 ≤ h0.size) (F_this_0_it : Fld Z h0 it "java/util/LinkedHashMap$LinkedHashIterator" "this$0" "Ljava/util/LinkedHashMap;" .null) (F_reversed_it : Fld Z h0 it "java/util/LinkedHashMap$LinkedHashIterator" "reversed" "Z" (.int (0 : Int32))) (F_next_it : Fld Z h0 it "java/util/LinkedHashMap$LinkedHashIterator" "next" "Ljava/util/LinkedHashMap$Entry;" .null) (F_expectedModCount_it : Fld Z h0 it "java/util/LinkedHashMap$LinkedHashIterator" "expectedModCount" "I" (.int (0 : Int32))) (F_current_it : Fld Z h0 it "java/util/LinkedHashMap$LinkedHashIterator" "current" "Ljava/util/LinkedHashMap$Entry;" .null) (F_head_m : Fld Z h0 m "java/util/LinkedHashMap" "head" "Ljava/util/LinkedHashMap$Entry;" .null) (F_modCount_m : Fld Z h0 m "java/util/HashMap" "modCount" "I" (.int (0 : Int32))) (E_it : Exa Z h0 it "java/util/LinkedHashMap$LinkedKeyIterator") (le_n0_it : n0 ≤ it) (ne_m_it : m ≠ it) :
    MetFree lL (⟨"java/util/LinkedHashMap$LinkedHashIterator", "<init>", "(Ljava/util/LinkedHashMap;Z)V"⟩ : MethodName) (head1 (Jvm.Cond.code (⟨"java/util/LinkedHashMap$LinkedHashIterator", "<init>", "(Ljava/util/LinkedHashMap;Z)V"⟩ : MethodName) jdk_2616_method_1_code 3 none :: ws) ({ frames := 1, cells := 0, slots := 0, locals := 12 } : Room)) (fun a_ U_ => a_ = #[(.ref it), (.ref m), (.int (0 : Int32))] ∧ Z.Warmed39 U_.vm ∧ U_.heap = h0) (fun _ _ _ _ _ => True) (fun _ U_ o_ W_ => ∃ v_ L_, o_ = .returned v_ ∧ own_Qit Z it h0 n0 v_ W_.heap L_ ∧ FrameEnd U_ o_ W_ L_ ({ frames := 1, cells := 0, slots := 0, locals := 12 } : Room).cells ({ frames := 1, cells := 0, slots := 0, locals := 12 } : Room).slots) := by
  refine MetFree.of_bodySF (plainFor_of_name pn_hi) hisR ?_
  intro pP eE sS mI args below meth cC s₁ Bd hml0 hP hK
  obtain ⟨rfl, hZ, hh⟩ := hP
  have hx := Bd.exec
  have hby := Bd.bytes
  have hml : cC.maxLocals = 3 := hml0
  have hown : sS.vm.findClass "java/util/LinkedHashMap$LinkedHashIterator" = some mI.cls := by have z := findClass_of_methodNamed Bd.named; exact z
  have hnm := (name_of_methodNamed Bd.named Bd.method).1
  have X0 : Stand pP lL eE ({ frames := 1, cells := 0, slots := 0, locals := 12 } : Room) sS mI #[(.ref it), (.ref m), (.int (0 : Int32))] below meth cC s₁ [] 0 0 := Stand.of_body Bd
  have e0 : s₁.heap = h0 := by rw [← hh, Bd.state]; rfl
  have N0 := Fr.nil n0
  obtain ⟨G, hG, hst, hend⟩ := own_abs pP eE below sS (own_Qit Z it h0 n0) ({ frames := 1, cells := 0, slots := 0, locals := 12 } : Room).cells ({ frames := 1, cells := 0, slots := 0, locals := 12 } : Room).slots
  refine hG (S := s₁.setTop (entryFrame mI #[(.ref it), (.ref m), (.int (0 : Int32))] 3)) (hst (fun t_ kt_ => castTop (ef_hi mI it m) kt_) ?_)
  have Z1 := Nat.le_refl h0.size
  have K0 := Keep.refl h0 [it]
  show G (s₁.setTop (mkF mI 0 #[.val (.ref it), .val (.ref m), .val (.int (0 : Int32))] []))
  refine o_aloadN hst X0.here hx (hb hby dhi_0) (pc' := 1) rfl rfl rfl ?_
  refine o_aloadN hst X0.here hx (hb hby dhi_1) (pc' := 2) rfl rfl rfl ?_
  obtain ⟨T_1, h_1, X_1, e_1, W_1, st_1⟩ := putF X0 hx hZ hown (host := "") (Or.inl (own_w272 hw)) Via.refl e0 F_this_0_it E_it (Or.inr ⟨(own_w273 hw), rfl, hnm⟩) (own_w260 hw) (ty := (.object "java/util/LinkedHashMap")) (by decide) rfl rfl (g := (mkF mI 2 #[.val (.ref it), .val (.ref m), .val (.int (0 : Int32))] [(.ref m), (.ref it)])) rfl rfl (hb hby dhi_2)
  have Z0 := Nat.le_trans Z0 (Keep.of_wr W_1).1
  have Z1 := Nat.le_trans Z1 (Keep.of_wr W_1).1
  have K0 := K0.wr W_1 (Or.inl (List.mem_of_getElem? (i := 0) rfl))
  have F_this_0_it := F_this_0_it.same W_1
  have F_reversed_it := F_reversed_it.other W_1 (Or.inr (slot_ne (Or.inl (own_w276 hw)) (Or.inr (own_w273 hw)) (by decide) (t := .boolean) (t' := (.object "java/util/LinkedHashMap")) (by decide) (by decide)))
  have F_next_it := F_next_it.other W_1 (Or.inr (slot_ne (Or.inl (own_w280 hw)) (Or.inr (own_w273 hw)) (by decide) (t := (.object "java/util/LinkedHashMap$Entry")) (t' := (.object "java/util/LinkedHashMap")) (by decide) (by decide)))
  have F_expectedModCount_it := F_expectedModCount_it.other W_1 (Or.inr (slot_ne (Or.inl (own_w285 hw)) (Or.inr (own_w273 hw)) (by decide) (t := .int) (t' := (.object "java/util/LinkedHashMap")) (by decide) (by decide)))
  have F_current_it := F_current_it.other W_1 (Or.inr (slot_ne (Or.inl (own_w287 hw)) (Or.inr (own_w273 hw)) (by decide) (t := (.object "java/util/LinkedHashMap$Entry")) (t' := (.object "java/util/LinkedHashMap")) (by decide) (by decide)))
  have F_head_m := F_head_m.other W_1 (Or.inl ne_m_it)
  have F_modCount_m := F_modCount_m.other W_1 (Or.inl ne_m_it)
  have E_it := E_it.wr W_1
  have N_1 := Fr.snoc X_1 N0 le_n0_it
  refine hst st_1 ?_
  show G (T_1.setTop (mkF mI 5 #[.val (.ref it), .val (.ref m), .val (.int (0 : Int32))] []))
  refine o_aloadN hst X_1.here hx (hb hby dhi_5) (pc' := 6) rfl rfl rfl ?_
  obtain ⟨T_2, X_2, e_2, st_2⟩ := initO X_1 hx hZ hown (own_w274 hw) (own_w22 hw) (own_w23 hw) e_1 (g := (mkF mI 6 #[.val (.ref it), .val (.ref m), .val (.int (0 : Int32))] [(.ref it)])) rfl (by rw [hml]; rfl) rfl (hb hby dhi_6) (by decide) (W := 0) (by show 2 * 0 + _ ≤ _; exact Nat.le_of_eq rfl) (by decide)
  refine hst st_2 ?_
  show G (T_2.setTop (mkF mI 9 #[.val (.ref it), .val (.ref m), .val (.int (0 : Int32))] []))
  refine o_aloadN hst X_2.here hx (hb hby dhi_9) (pc' := 10) rfl rfl rfl ?_
  refine o_iloadN hst X_2.here hx (hb hby dhi_10) (pc' := 11) rfl rfl ?_
  obtain ⟨T_3, h_3, X_3, e_3, W_3, st_3⟩ := putFN X_2 hx hZ hown (own_w275 hw) Via.refl e_2 F_reversed_it E_it (Or.inl (own_w276 hw)) (own_w260 hw) (ty := .boolean) (v' := (.int (0 : Int32))) (by decide) rfl rfl (g := (mkF mI 11 #[.val (.ref it), .val (.ref m), .val (.int (0 : Int32))] [(.int (0 : Int32)), (.ref it)])) rfl rfl (hb hby dhi_11)
  have Z0 := Nat.le_trans Z0 (Keep.of_wr W_3).1
  have Z1 := Nat.le_trans Z1 (Keep.of_wr W_3).1
  have K0 := K0.wr W_3 (Or.inl (List.mem_of_getElem? (i := 0) rfl))
  have F_this_0_it := F_this_0_it.other W_3 (Or.inr (slot_ne (Or.inr (own_w273 hw)) (Or.inl (own_w276 hw)) (by decide) (t := (.object "java/util/LinkedHashMap")) (t' := .boolean) (by decide) (by decide)))
  have F_reversed_it := F_reversed_it.same W_3
  have F_next_it := F_next_it.other W_3 (Or.inr (slot_ne (Or.inl (own_w280 hw)) (Or.inl (own_w276 hw)) (by decide) (t := (.object "java/util/LinkedHashMap$Entry")) (t' := .boolean) (by decide) (by decide)))
  have F_expectedModCount_it := F_expectedModCount_it.other W_3 (Or.inr (slot_ne (Or.inl (own_w285 hw)) (Or.inl (own_w276 hw)) (by decide) (t := .int) (t' := .boolean) (by decide) (by decide)))
  have F_current_it := F_current_it.other W_3 (Or.inr (slot_ne (Or.inl (own_w287 hw)) (Or.inl (own_w276 hw)) (by decide) (t := (.object "java/util/LinkedHashMap$Entry")) (t' := .boolean) (by decide) (by decide)))
  have F_head_m := F_head_m.other W_3 (Or.inl ne_m_it)
  have F_modCount_m := F_modCount_m.other W_3 (Or.inl ne_m_it)
  have E_it := E_it.wr W_3
  have N_3 := Fr.snoc X_3 N_1 le_n0_it
  refine hst st_3 ?_
  show G (T_3.setTop (mkF mI 14 #[.val (.ref it), .val (.ref m), .val (.int (0 : Int32))] []))
  refine o_aloadN hst X_3.here hx (hb hby dhi_14) (pc' := 15) rfl rfl rfl ?_
  refine o_iloadN hst X_3.here hx (hb hby dhi_15) (pc' := 16) rfl rfl ?_
  have hc16 : (0 : Int32) = (0 : Int32) := rfl
  refine hst (fun _ kt => XS.ifYes X_3.here hx rfl (pc0 := 16) (pc' := 26) rfl (hb hby dhi_16) rfl ((if0 _ _).trans (teq hc16).1) (by decide) (by decide) kt) ?_
  show G (T_3.setTop (mkF mI 26 #[.val (.ref it), .val (.ref m), .val (.int (0 : Int32))] [(.ref it)]))
  refine o_aloadN hst X_3.here hx (hb hby dhi_26) (pc' := 27) rfl rfl rfl ?_
  obtain ⟨T_4, X_4, e_4, st_4⟩ := getF X_3 hx hZ hown (host := "") (Or.inl (own_w277 hw)) Via.refl e_3 F_head_m (g := (mkF mI 27 #[.val (.ref it), .val (.ref m), .val (.int (0 : Int32))] [(.ref m), (.ref it)])) rfl rfl (hb hby dhi_27)
  refine hst st_4 ?_
  show G (T_4.setTop (mkF mI 30 #[.val (.ref it), .val (.ref m), .val (.int (0 : Int32))] [.null, (.ref it)]))
  obtain ⟨T_5, h_5, X_5, e_5, W_5, st_5⟩ := putF X_4 hx hZ hown (host := "") (Or.inl (own_w279 hw)) Via.refl e_4 F_next_it E_it (Or.inl (own_w280 hw)) (own_w260 hw) (ty := (.object "java/util/LinkedHashMap$Entry")) (by decide) rfl rfl (g := (mkF mI 30 #[.val (.ref it), .val (.ref m), .val (.int (0 : Int32))] [.null, (.ref it)])) rfl rfl (hb hby dhi_30)
  have Z0 := Nat.le_trans Z0 (Keep.of_wr W_5).1
  have Z1 := Nat.le_trans Z1 (Keep.of_wr W_5).1
  have K0 := K0.wr W_5 (Or.inl (List.mem_of_getElem? (i := 0) rfl))
  have F_this_0_it := F_this_0_it.other W_5 (Or.inr (slot_ne (Or.inr (own_w273 hw)) (Or.inl (own_w280 hw)) (by decide) (t := (.object "java/util/LinkedHashMap")) (t' := (.object "java/util/LinkedHashMap$Entry")) (by decide) (by decide)))
  have F_reversed_it := F_reversed_it.other W_5 (Or.inr (slot_ne (Or.inl (own_w276 hw)) (Or.inl (own_w280 hw)) (by decide) (t := .boolean) (t' := (.object "java/util/LinkedHashMap$Entry")) (by decide) (by decide)))
  have F_next_it := F_next_it.same W_5
  have F_expectedModCount_it := F_expectedModCount_it.other W_5 (Or.inr (slot_ne (Or.inl (own_w285 hw)) (Or.inl (own_w280 hw)) (by decide) (t := .int) (t' := (.object "java/util/LinkedHashMap$Entry")) (by decide) (by decide)))
  have F_current_it := F_current_it.other W_5 (Or.inr (slot_ne (Or.inl (own_w287 hw)) (Or.inl (own_w280 hw)) (by decide) (t := (.object "java/util/LinkedHashMap$Entry")) (t' := (.object "java/util/LinkedHashMap$Entry")) (by decide) (by decide)))
  have F_head_m := F_head_m.other W_5 (Or.inl ne_m_it)
  have F_modCount_m := F_modCount_m.other W_5 (Or.inl ne_m_it)
  have E_it := E_it.wr W_5
  have N_5 := Fr.snoc X_5 N_3 le_n0_it
  refine hst st_5 ?_
  show G (T_5.setTop (mkF mI 33 #[.val (.ref it), .val (.ref m), .val (.int (0 : Int32))] []))
  refine o_aloadN hst X_5.here hx (hb hby dhi_33) (pc' := 34) rfl rfl rfl ?_
  refine o_aloadN hst X_5.here hx (hb hby dhi_34) (pc' := 35) rfl rfl rfl ?_
  obtain ⟨T_6, X_6, e_6, st_6⟩ := getF X_5 hx hZ hown (host := "") (Or.inl (own_w281 hw)) (Via.of (own_w282 hw)) e_5 F_modCount_m (g := (mkF mI 35 #[.val (.ref it), .val (.ref m), .val (.int (0 : Int32))] [(.ref m), (.ref it)])) rfl rfl (hb hby dhi_35)
  refine hst st_6 ?_
  show G (T_6.setTop (mkF mI 38 #[.val (.ref it), .val (.ref m), .val (.int (0 : Int32))] [(.int (0 : Int32)), (.ref it)]))
  obtain ⟨T_7, h_7, X_7, e_7, W_7, st_7⟩ := putF X_6 hx hZ hown (host := "") (Or.inl (own_w284 hw)) Via.refl e_6 F_expectedModCount_it E_it (Or.inl (own_w285 hw)) (own_w260 hw) (ty := .int) (by decide) rfl rfl (g := (mkF mI 38 #[.val (.ref it), .val (.ref m), .val (.int (0 : Int32))] [(.int (0 : Int32)), (.ref it)])) rfl rfl (hb hby dhi_38)
  have Z0 := Nat.le_trans Z0 (Keep.of_wr W_7).1
  have Z1 := Nat.le_trans Z1 (Keep.of_wr W_7).1
  have K0 := K0.wr W_7 (Or.inl (List.mem_of_getElem? (i := 0) rfl))
  have F_this_0_it := F_this_0_it.other W_7 (Or.inr (slot_ne (Or.inr (own_w273 hw)) (Or.inl (own_w285 hw)) (by decide) (t := (.object "java/util/LinkedHashMap")) (t' := .int) (by decide) (by decide)))
  have F_reversed_it := F_reversed_it.other W_7 (Or.inr (slot_ne (Or.inl (own_w276 hw)) (Or.inl (own_w285 hw)) (by decide) (t := .boolean) (t' := .int) (by decide) (by decide)))
  have F_next_it := F_next_it.other W_7 (Or.inr (slot_ne (Or.inl (own_w280 hw)) (Or.inl (own_w285 hw)) (by decide) (t := (.object "java/util/LinkedHashMap$Entry")) (t' := .int) (by decide) (by decide)))
  have F_expectedModCount_it := F_expectedModCount_it.same W_7
  have F_current_it := F_current_it.other W_7 (Or.inr (slot_ne (Or.inl (own_w287 hw)) (Or.inl (own_w285 hw)) (by decide) (t := (.object "java/util/LinkedHashMap$Entry")) (t' := .int) (by decide) (by decide)))
  have F_head_m := F_head_m.other W_7 (Or.inl ne_m_it)
  have F_modCount_m := F_modCount_m.other W_7 (Or.inl ne_m_it)
  have E_it := E_it.wr W_7
  have N_7 := Fr.snoc X_7 N_5 le_n0_it
  refine hst st_7 ?_
  show G (T_7.setTop (mkF mI 41 #[.val (.ref it), .val (.ref m), .val (.int (0 : Int32))] []))
  refine o_aloadN hst X_7.here hx (hb hby dhi_41) (pc' := 42) rfl rfl rfl ?_
  refine o_aconstNull hst X_7.here hx (hb hby dhi_42) (pc' := 43) rfl ?_
  obtain ⟨T_8, h_8, X_8, e_8, W_8, st_8⟩ := putF X_7 hx hZ hown (host := "") (Or.inl (own_w286 hw)) Via.refl e_7 F_current_it E_it (Or.inl (own_w287 hw)) (own_w260 hw) (ty := (.object "java/util/LinkedHashMap$Entry")) (by decide) rfl rfl (g := (mkF mI 43 #[.val (.ref it), .val (.ref m), .val (.int (0 : Int32))] [.null, (.ref it)])) rfl rfl (hb hby dhi_43)
  have Z0 := Nat.le_trans Z0 (Keep.of_wr W_8).1
  have Z1 := Nat.le_trans Z1 (Keep.of_wr W_8).1
  have K0 := K0.wr W_8 (Or.inl (List.mem_of_getElem? (i := 0) rfl))
  have F_this_0_it := F_this_0_it.other W_8 (Or.inr (slot_ne (Or.inr (own_w273 hw)) (Or.inl (own_w287 hw)) (by decide) (t := (.object "java/util/LinkedHashMap")) (t' := (.object "java/util/LinkedHashMap$Entry")) (by decide) (by decide)))
  have F_reversed_it := F_reversed_it.other W_8 (Or.inr (slot_ne (Or.inl (own_w276 hw)) (Or.inl (own_w287 hw)) (by decide) (t := .boolean) (t' := (.object "java/util/LinkedHashMap$Entry")) (by decide) (by decide)))
  have F_next_it := F_next_it.other W_8 (Or.inr (slot_ne (Or.inl (own_w280 hw)) (Or.inl (own_w287 hw)) (by decide) (t := (.object "java/util/LinkedHashMap$Entry")) (t' := (.object "java/util/LinkedHashMap$Entry")) (by decide) (by decide)))
  have F_expectedModCount_it := F_expectedModCount_it.other W_8 (Or.inr (slot_ne (Or.inl (own_w285 hw)) (Or.inl (own_w287 hw)) (by decide) (t := .int) (t' := (.object "java/util/LinkedHashMap$Entry")) (by decide) (by decide)))
  have F_current_it := F_current_it.same W_8
  have F_head_m := F_head_m.other W_8 (Or.inl ne_m_it)
  have F_modCount_m := F_modCount_m.other W_8 (Or.inl ne_m_it)
  have E_it := E_it.wr W_8
  have N_8 := Fr.snoc X_8 N_7 le_n0_it
  refine hst st_8 ?_
  show G (T_8.setTop (mkF mI 46 #[.val (.ref it), .val (.ref m), .val (.int (0 : Int32))] []))
  exact hend (own_goVoid X_8 hx Bd.returns (hb hby dhi_46) Bd.notSynchronized (by rw [e_8]; exact ⟨rfl, N_8, K0, F_next_it⟩) (by decide) (by decide))
theorem dli_0 : decode jdk_2617_method_1_code 0 = .ok (.aload_n 0, 1) := by decide +kernel
theorem dli_1 : decode jdk_2617_method_1_code 1 = .ok (.aload_n 1, 1) := by decide +kernel
theorem dli_2 : decode jdk_2617_method_1_code 2 = .ok (.iload_n 2, 1) := by decide +kernel
theorem dli_3 : decode jdk_2617_method_1_code 3 = .ok (.invokespecial 1, 3) := by decide +kernel
theorem dli_6 : decode jdk_2617_method_1_code 6 = .ok (.return_, 1) := by decide +kernel
theorem ef_li (mI : MethodId) (it : Addr) (m : Addr) : entryFrame mI #[(.ref it), (.ref m), (.int (0 : Int32))] 3 = mkF mI 0 #[.val (.ref it), .val (.ref m), .val (.int (0 : Int32))] [] := by first | (simp [entryFrame, mkF, argsToLocals, Value.category]; done) | rfl
theorem pn_li : plainName "java/util/LinkedHashMap$LinkedKeyIterator" = true := by first | decide +kernel | (simp [plainName, overriddenIn]; done)
set_option maxRecDepth 65536 in
set_option maxHeartbeats 40000000 in
theorem rmli (lL : Launch) (Z : State) (a0 : Array Value) (hw : ∀ d ∈ tables_1, d.before a0 Z = true) (ws : List Jvm.Cond) (it : Addr) (m : Addr) (h0 : Heap) (n0 : Nat) (Z0 : n0 ≤ h0.size) (F_this_0_it : Fld Z h0 it "java/util/LinkedHashMap$LinkedHashIterator" "this$0" "Ljava/util/LinkedHashMap;" .null) (F_reversed_it : Fld Z h0 it "java/util/LinkedHashMap$LinkedHashIterator" "reversed" "Z" (.int (0 : Int32))) (F_next_it : Fld Z h0 it "java/util/LinkedHashMap$LinkedHashIterator" "next" "Ljava/util/LinkedHashMap$Entry;" .null) (F_expectedModCount_it : Fld Z h0 it "java/util/LinkedHashMap$LinkedHashIterator" "expectedModCount" "I" (.int (0 : Int32))) (F_current_it : Fld Z h0 it "java/util/LinkedHashMap$LinkedHashIterator" "current" "Ljava/util/LinkedHashMap$Entry;" .null) (F_head_m : Fld Z h0 m "java/util/LinkedHashMap" "head" "Ljava/util/LinkedHashMap$Entry;" .null) (F_modCount_m : Fld Z h0 m "java/util/HashMap" "modCount" "I" (.int (0 : Int32))) (E_it : Exa Z h0 it "java/util/LinkedHashMap$LinkedKeyIterator") (le_n0_it : n0 ≤ it) (ne_m_it : m ≠ it) :
    MetFree lL (⟨"java/util/LinkedHashMap$LinkedKeyIterator", "<init>", "(Ljava/util/LinkedHashMap;Z)V"⟩ : MethodName) (head1 (Jvm.Cond.code (⟨"java/util/LinkedHashMap$LinkedKeyIterator", "<init>", "(Ljava/util/LinkedHashMap;Z)V"⟩ : MethodName) jdk_2617_method_1_code 3 none :: ws) ({ frames := 2, cells := 0, slots := 0, locals := 26 } : Room)) (fun a_ U_ => a_ = #[(.ref it), (.ref m), (.int (0 : Int32))] ∧ Z.Warmed39 U_.vm ∧ U_.heap = h0) (fun _ _ _ _ _ => True) (fun _ U_ o_ W_ => ∃ v_ L_, o_ = .returned v_ ∧ own_Qit Z it h0 n0 v_ W_.heap L_ ∧ FrameEnd U_ o_ W_ L_ ({ frames := 2, cells := 0, slots := 0, locals := 26 } : Room).cells ({ frames := 2, cells := 0, slots := 0, locals := 26 } : Room).slots) := by
  refine MetFree.of_bodySF (plainFor_of_name pn_li) hisR ?_
  intro pP eE sS mI args below meth cC s₁ Bd hml0 hP hK
  obtain ⟨rfl, hZ, hh⟩ := hP
  have hx := Bd.exec
  have hby := Bd.bytes
  have hml : cC.maxLocals = 3 := hml0
  have hown : sS.vm.findClass "java/util/LinkedHashMap$LinkedKeyIterator" = some mI.cls := by have z := findClass_of_methodNamed Bd.named; exact z
  have hnm := (name_of_methodNamed Bd.named Bd.method).1
  have X0 : Stand pP lL eE ({ frames := 2, cells := 0, slots := 0, locals := 26 } : Room) sS mI #[(.ref it), (.ref m), (.int (0 : Int32))] below meth cC s₁ [] 0 0 := Stand.of_body Bd
  have e0 : s₁.heap = h0 := by rw [← hh, Bd.state]; rfl
  have N0 := Fr.nil n0
  obtain ⟨G, hG, hst, hend⟩ := own_abs pP eE below sS (own_Qit Z it h0 n0) ({ frames := 2, cells := 0, slots := 0, locals := 26 } : Room).cells ({ frames := 2, cells := 0, slots := 0, locals := 26 } : Room).slots
  refine hG (S := s₁.setTop (entryFrame mI #[(.ref it), (.ref m), (.int (0 : Int32))] 3)) (hst (fun t_ kt_ => castTop (ef_li mI it m) kt_) ?_)
  have Z1 := Nat.le_refl h0.size
  have K0 := Keep.refl h0 [it]
  show G (s₁.setTop (mkF mI 0 #[.val (.ref it), .val (.ref m), .val (.int (0 : Int32))] []))
  refine o_aloadN hst X0.here hx (hb hby dli_0) (pc' := 1) rfl rfl rfl ?_
  refine o_aloadN hst X0.here hx (hb hby dli_1) (pc' := 2) rfl rfl rfl ?_
  refine o_iloadN hst X0.here hx (hb hby dli_2) (pc' := 3) rfl rfl ?_
  obtain ⟨_, _, ⟨T_1, L_1, k_1, n_1⟩, -, X_1, ⟨Lc_1, hQ_1, l_1, y_1, z_1⟩, st_1⟩ := X0.specialBack hx (y := (⟨"java/util/LinkedHashMap$LinkedHashIterator", "<init>", "(Ljava/util/LinkedHashMap;Z)V"⟩ : MethodName)) rfl hown (mvT hZ (own_w266 hw)) (mvT hZ (own_w267 hw)) (mvT hZ (own_w271 hw)) (by decide) (backOf (W := 0) (rmhi lL Z a0 hw [] it m  h0 n0 Z0 F_this_0_it F_reversed_it F_next_it F_expectedModCount_it F_current_it F_head_m F_modCount_m E_it le_n0_it ne_m_it) hZ (own_w271 hw) (own_w270 hw) (by decide) (by decide)) (g := (mkF mI 3 #[.val (.ref it), .val (.ref m), .val (.int (0 : Int32))] [(.int (0 : Int32)), (.ref m), (.ref it)])) rfl (by rw [hml]; rfl) (Steps.refl _) (a := it) (argsL := [(.ref m), (.int (0 : Int32))]) (rest := []) (lenOf pd_8 rfl) rfl (by show 2 * 0 + _ ≤ _; exact Nat.le_of_eq rfl) (hb hby dli_3) (fun _ _ => ⟨rfl, e0, (by decide : 0 + 0 ≤ _), (by decide : 0 + 0 ≤ _)⟩)
  dsimp only [Pt.U, Pt.locs, Pt.cells, Pt.slots] at X_1 l_1 y_1 z_1 st_1 hQ_1
  subst l_1 y_1 z_1
  obtain ⟨rfl, N_1q, K_1, G1⟩ := hQ_1
  have N_1 := Fr.app N0 N_1q
  refine hst (fun _ kt => st_1.trans kt) ?_
  show G (T_1.setTop (mkF mI 6 #[.val (.ref it), .val (.ref m), .val (.int (0 : Int32))] []))
  exact hend (own_goVoid X_1 hx Bd.returns (hb hby dli_6) Bd.notSynchronized (by exact ⟨rfl, N_1, K_1, G1⟩) (by decide) (by decide))
def own_Qke (Z : State) (h0 : Heap) (n0 : Nat) (v : Option Value) (h : Heap) (L : List Loc) : Prop := ∃ it : Addr, v = some (.ref it) ∧ Fr n0 L ∧ Keep h0 h [] ∧ Exa Z h it "java/util/LinkedHashMap$LinkedKeyIterator" ∧ Fld Z h it "java/util/LinkedHashMap$LinkedHashIterator" "next" "Ljava/util/LinkedHashMap$Entry;" .null
theorem dke_0 : decode jdk_112_method_4_code 0 = .ok (.new 26, 3) := by decide +kernel
theorem dke_3 : decode jdk_112_method_4_code 3 = .ok (.dup, 1) := by decide +kernel
theorem dke_4 : decode jdk_112_method_4_code 4 = .ok (.aload_n 0, 1) := by decide +kernel
theorem dke_5 : decode jdk_112_method_4_code 5 = .ok (.getfield 1, 3) := by decide +kernel
theorem dke_8 : decode jdk_112_method_4_code 8 = .ok (.aload_n 0, 1) := by decide +kernel
theorem dke_9 : decode jdk_112_method_4_code 9 = .ok (.getfield 13, 3) := by decide +kernel
theorem dke_12 : decode jdk_112_method_4_code 12 = .ok (.invokespecial 28, 3) := by decide +kernel
theorem dke_15 : decode jdk_112_method_4_code 15 = .ok (.areturn, 1) := by decide +kernel
theorem ef_ke (mI : MethodId) (ks : Addr) : entryFrame mI #[(.ref ks)] 1 = mkF mI 0 #[.val (.ref ks)] [] := by first | (simp [entryFrame, mkF, argsToLocals, Value.category]; done) | rfl
theorem pn_ke : plainName "java/util/LinkedHashMap$LinkedKeySet" = true := by first | decide +kernel | (simp [plainName, overriddenIn]; done)
set_option maxRecDepth 65536 in
set_option maxHeartbeats 40000000 in
theorem rmke (lL : Launch) (Z : State) (a0 : Array Value) (hw : ∀ d ∈ tables_1, d.before a0 Z = true) (ws : List Jvm.Cond) (ks : Addr) (m : Addr) (h0 : Heap) (n0 : Nat) (Z0 : n0 ≤ h0.size) (F_this_0_ks : Fld Z h0 ks "java/util/LinkedHashMap$LinkedKeySet" "this$0" "Ljava/util/LinkedHashMap;" (.ref m)) (F_reversed_ks : Fld Z h0 ks "java/util/LinkedHashMap$LinkedKeySet" "reversed" "Z" (.int (0 : Int32))) (F_head_m : Fld Z h0 m "java/util/LinkedHashMap" "head" "Ljava/util/LinkedHashMap$Entry;" .null) (F_modCount_m : Fld Z h0 m "java/util/HashMap" "modCount" "I" (.int (0 : Int32))) :
    MetFree lL (⟨"java/util/LinkedHashMap$LinkedKeySet", "iterator", "()Ljava/util/Iterator;"⟩ : MethodName) (head1 (Jvm.Cond.code (⟨"java/util/LinkedHashMap$LinkedKeySet", "iterator", "()Ljava/util/Iterator;"⟩ : MethodName) jdk_112_method_4_code 1 (some (.object "java/util/Iterator")) :: ws) ({ frames := 3, cells := 1, slots := 5, locals := 41 } : Room)) (fun a_ U_ => a_ = #[(.ref ks)] ∧ Z.Warmed39 U_.vm ∧ U_.heap = h0) (fun _ _ _ _ _ => True) (fun _ U_ o_ W_ => ∃ v_ L_, o_ = .returned v_ ∧ own_Qke Z h0 n0 v_ W_.heap L_ ∧ FrameEnd U_ o_ W_ L_ ({ frames := 3, cells := 1, slots := 5, locals := 41 } : Room).cells ({ frames := 3, cells := 1, slots := 5, locals := 41 } : Room).slots) := by
  refine MetFree.of_bodySF (plainFor_of_name pn_ke) hisR ?_
  intro pP eE sS mI args below meth cC s₁ Bd hml0 hP hK
  obtain ⟨rfl, hZ, hh⟩ := hP
  have hx := Bd.exec
  have hby := Bd.bytes
  have hml : cC.maxLocals = 1 := hml0
  have hown : sS.vm.findClass "java/util/LinkedHashMap$LinkedKeySet" = some mI.cls := by have z := findClass_of_methodNamed Bd.named; exact z
  have hnm := (name_of_methodNamed Bd.named Bd.method).1
  have X0 : Stand pP lL eE ({ frames := 3, cells := 1, slots := 5, locals := 41 } : Room) sS mI #[(.ref ks)] below meth cC s₁ [] 0 0 := Stand.of_body Bd
  have e0 : s₁.heap = h0 := by rw [← hh, Bd.state]; rfl
  have N0 := Fr.nil n0
  obtain ⟨G, hG, hst, hend⟩ := own_abs pP eE below sS (own_Qke Z h0 n0) ({ frames := 3, cells := 1, slots := 5, locals := 41 } : Room).cells ({ frames := 3, cells := 1, slots := 5, locals := 41 } : Room).slots
  refine hG (S := s₁.setTop (entryFrame mI #[(.ref ks)] 1)) (hst (fun t_ kt_ => castTop (ef_ke mI ks) kt_) ?_)
  have Z1 := Nat.le_refl h0.size
  have K0 := Keep.refl h0 []
  show G (s₁.setTop (mkF mI 0 #[.val (.ref ks)] []))
  obtain ⟨T_1, h_1, X_1, e_1, E_1, A_1, D_1, -, st_1⟩ := newO X0 hx hZ hown (own_w259 hw) (own_w260 hw) (own_w261 hw) e0 (g := (mkF mI 0 #[.val (.ref ks)] [])) rfl (hb hby dke_0) (by decide) (by decide)
  obtain ⟨it, g_it⟩ : ∃ z, z = h0.size := ⟨_, rfl⟩
  rw [← g_it] at A_1 D_1 st_1
  have ne_ks_it : ks ≠ it := Nat.ne_of_lt (Nat.lt_of_lt_of_le F_this_0_ks.lt (Nat.le_of_eq g_it.symm))
  have ne_m_it : m ≠ it := Nat.ne_of_lt (Nat.lt_of_lt_of_le F_head_m.lt (Nat.le_of_eq g_it.symm))
  have le_n0_it : n0 ≤ it := Nat.le_trans Z0 (Nat.le_of_eq g_it.symm)
  have le_hh_it : h0.size ≤ it := Nat.le_trans Z1 (Nat.le_of_eq g_it.symm)
  have Z0 := Nat.le_trans Z0 E_1.1
  have Z1 := Nat.le_trans Z1 E_1.1
  have K0 := K0.ext E_1
  have F_this_0_ks := F_this_0_ks.ext E_1
  have F_reversed_ks := F_reversed_ks.ext E_1
  have F_head_m := F_head_m.ext E_1
  have F_modCount_m := F_modCount_m.ext E_1
  have E_it : Exa Z h_1 it "java/util/LinkedHashMap$LinkedKeyIterator" := A_1
  have F_this_0_it : Fld Z h_1 it "java/util/LinkedHashMap$LinkedHashIterator" "this$0" "Ljava/util/LinkedHashMap;" .null := D_1 (Or.inr (own_w273 hw)) (ty := (.object "java/util/LinkedHashMap")) (by decide)
  have F_reversed_it : Fld Z h_1 it "java/util/LinkedHashMap$LinkedHashIterator" "reversed" "Z" (.int (0 : Int32)) := D_1 (Or.inl (own_w276 hw)) (ty := .boolean) (by decide)
  have F_next_it : Fld Z h_1 it "java/util/LinkedHashMap$LinkedHashIterator" "next" "Ljava/util/LinkedHashMap$Entry;" .null := D_1 (Or.inl (own_w280 hw)) (ty := (.object "java/util/LinkedHashMap$Entry")) (by decide)
  have F_expectedModCount_it : Fld Z h_1 it "java/util/LinkedHashMap$LinkedHashIterator" "expectedModCount" "I" (.int (0 : Int32)) := D_1 (Or.inl (own_w285 hw)) (ty := .int) (by decide)
  have F_current_it : Fld Z h_1 it "java/util/LinkedHashMap$LinkedHashIterator" "current" "Ljava/util/LinkedHashMap$Entry;" .null := D_1 (Or.inl (own_w287 hw)) (ty := (.object "java/util/LinkedHashMap$Entry")) (by decide)
  refine hst st_1 ?_
  show G (T_1.setTop (mkF mI 3 #[.val (.ref ks)] [(.ref it)]))
  refine o_dup hst X_1.here hx (hb hby dke_3) (pc' := 4) rfl rfl ?_
  refine o_aloadN hst X_1.here hx (hb hby dke_4) (pc' := 5) rfl rfl rfl ?_
  obtain ⟨T_2, X_2, e_2, st_2⟩ := getF X_1 hx hZ hown (host := "") (Or.inl (own_w245 hw)) Via.refl e_1 F_this_0_ks (g := (mkF mI 5 #[.val (.ref ks)] [(.ref ks), (.ref it), (.ref it)])) rfl rfl (hb hby dke_5)
  refine hst st_2 ?_
  show G (T_2.setTop (mkF mI 8 #[.val (.ref ks)] [(.ref m), (.ref it), (.ref it)]))
  refine o_aloadN hst X_2.here hx (hb hby dke_8) (pc' := 9) rfl rfl rfl ?_
  obtain ⟨T_3, X_3, e_3, st_3⟩ := getF X_2 hx hZ hown (host := "") (Or.inl (own_w250 hw)) Via.refl e_2 F_reversed_ks (g := (mkF mI 9 #[.val (.ref ks)] [(.ref ks), (.ref m), (.ref it), (.ref it)])) rfl rfl (hb hby dke_9)
  refine hst st_3 ?_
  show G (T_3.setTop (mkF mI 12 #[.val (.ref ks)] [(.int (0 : Int32)), (.ref m), (.ref it), (.ref it)]))
  obtain ⟨_, _, ⟨T_4, L_4, k_4, n_4⟩, -, X_4, ⟨Lc_4, hQ_4, l_4, y_4, z_4⟩, st_4⟩ := X_3.specialBack hx (y := (⟨"java/util/LinkedHashMap$LinkedKeyIterator", "<init>", "(Ljava/util/LinkedHashMap;Z)V"⟩ : MethodName)) rfl hown (mvT hZ (own_w262 hw)) (mvT hZ (own_w263 hw)) (mvT hZ (own_w265 hw)) (by decide) (backOf (W := 1) (rmli lL Z a0 hw [] it m  h_1 n0 Z0 F_this_0_it F_reversed_it F_next_it F_expectedModCount_it F_current_it F_head_m F_modCount_m E_it le_n0_it ne_m_it) hZ (own_w265 hw) (own_w261 hw) (by decide) (by decide)) (g := (mkF mI 12 #[.val (.ref ks)] [(.int (0 : Int32)), (.ref m), (.ref it), (.ref it)])) rfl (by rw [hml]; rfl) (Steps.refl _) (a := it) (argsL := [(.ref m), (.int (0 : Int32))]) (rest := [(.ref it)]) (lenOf pd_8 rfl) rfl (by show 2 * 0 + _ ≤ _; exact Nat.le_of_eq rfl) (hb hby dke_12) (fun _ _ => ⟨rfl, e_3, (by decide : 1 + 0 ≤ _), (by decide : 5 + 0 ≤ _)⟩)
  dsimp only [Pt.U, Pt.locs, Pt.cells, Pt.slots] at X_4 l_4 y_4 z_4 st_4 hQ_4
  subst l_4 y_4 z_4
  obtain ⟨rfl, N_4q, K_4, G1⟩ := hQ_4
  have Z0 := Nat.le_trans Z0 K_4.1
  have Z1 := Nat.le_trans Z1 K_4.1
  have K0 := K0.trans K_4 (allS (Or.inr le_hh_it) all0)
  have F_this_0_ks := F_this_0_ks.keep K_4 (ninS ne_ks_it nin0)
  have F_reversed_ks := F_reversed_ks.keep K_4 (ninS ne_ks_it nin0)
  have F_head_m := F_head_m.keep K_4 (ninS ne_m_it nin0)
  have F_modCount_m := F_modCount_m.keep K_4 (ninS ne_m_it nin0)
  have E_it := E_it.keep K_4
  have N_4 := Fr.app N0 N_4q
  refine hst (fun _ kt => st_4.trans kt) ?_
  show G (T_4.setTop (mkF mI 15 #[.val (.ref ks)] [(.ref it)]))
  exact hend (own_goRet X_4 hx Bd.returns rfl (Or.inr (Or.inr (Or.inr (Or.inr ⟨rfl, rfl, rfl⟩)))) (hb hby dke_15) Bd.notSynchronized (by exact ⟨it, rfl, N_4, K0, E_it, G1⟩) (by decide) (by decide))
def own_Qsi (Z : State) (m : Addr) (h0 : Heap) (n0 : Nat) (v : Option Value) (h : Heap) (L : List Loc) : Prop := ∃ it ks : Addr, v = some (.ref it) ∧ Fr n0 L ∧ Keep h0 h [m] ∧ h0.size ≤ ks ∧ Exa Z h it "java/util/LinkedHashMap$LinkedKeyIterator" ∧ Fld Z h it "java/util/LinkedHashMap$LinkedHashIterator" "next" "Ljava/util/LinkedHashMap$Entry;" .null ∧ Fld Z h m "java/util/HashMap" "size" "I" (.int (0 : Int32)) ∧ Fld Z h m "java/util/AbstractMap" "keySet" "Ljava/util/Set;" (.ref ks) ∧ Fld Z h m "java/util/LinkedHashMap" "head" "Ljava/util/LinkedHashMap$Entry;" .null ∧ Fld Z h m "java/util/HashMap" "modCount" "I" (.int (0 : Int32)) ∧ Exa Z h ks "java/util/LinkedHashMap$LinkedKeySet" ∧ Fld Z h ks "java/util/LinkedHashMap$LinkedKeySet" "this$0" "Ljava/util/LinkedHashMap;" (.ref m) ∧ Fld Z h ks "java/util/LinkedHashMap$LinkedKeySet" "reversed" "Z" (.int (0 : Int32))
theorem dsi_0 : decode jdk_93_method_6_code 0 = .ok (.aload_n 0, 1) := by decide +kernel
theorem dsi_1 : decode jdk_93_method_6_code 1 = .ok (.getfield 10, 3) := by decide +kernel
theorem dsi_4 : decode jdk_93_method_6_code 4 = .ok (.invokevirtual 45, 3) := by decide +kernel
theorem dsi_7 : decode jdk_93_method_6_code 7 = .ok (.invokeinterface 49 1, 5) := by decide +kernel
theorem dsi_12 : decode jdk_93_method_6_code 12 = .ok (.areturn, 1) := by decide +kernel
theorem ef_si (mI : MethodId) (s : Addr) : entryFrame mI #[(.ref s)] 1 = mkF mI 0 #[.val (.ref s)] [] := by first | (simp [entryFrame, mkF, argsToLocals, Value.category]; done) | rfl
theorem pn_si : plainName "java/util/HashSet" = true := by first | decide +kernel | (simp [plainName, overriddenIn]; done)
set_option maxRecDepth 65536 in
set_option maxHeartbeats 40000000 in
theorem rmsi (lL : Launch) (Z : State) (a0 : Array Value) (hw : ∀ d ∈ tables_1, d.before a0 Z = true) (ws : List Jvm.Cond) (s : Addr) (m : Addr) (h0 : Heap) (n0 : Nat) (Z0 : n0 ≤ h0.size) (F_map_s : Fld Z h0 s "java/util/HashSet" "map" "Ljava/util/HashMap;" (.ref m)) (E_m : Exa Z h0 m "java/util/LinkedHashMap") (F_size_m : Fld Z h0 m "java/util/HashMap" "size" "I" (.int (0 : Int32))) (F_keySet_m : Fld Z h0 m "java/util/AbstractMap" "keySet" "Ljava/util/Set;" .null) (F_head_m : Fld Z h0 m "java/util/LinkedHashMap" "head" "Ljava/util/LinkedHashMap$Entry;" .null) (F_modCount_m : Fld Z h0 m "java/util/HashMap" "modCount" "I" (.int (0 : Int32))) (le_n0_m : n0 ≤ m) :
    MetFree lL (⟨"java/util/HashSet", "iterator", "()Ljava/util/Iterator;"⟩ : MethodName) (head1 (Jvm.Cond.code (⟨"java/util/HashSet", "iterator", "()Ljava/util/Iterator;"⟩ : MethodName) jdk_93_method_6_code 1 (some (.object "java/util/Iterator")) :: ws) ({ frames := 6, cells := 2, slots := 7, locals := 77 } : Room)) (fun a_ U_ => a_ = #[(.ref s)] ∧ Z.Warmed39 U_.vm ∧ U_.heap = h0) (fun _ _ _ _ _ => True) (fun _ U_ o_ W_ => ∃ v_ L_, o_ = .returned v_ ∧ own_Qsi Z m h0 n0 v_ W_.heap L_ ∧ FrameEnd U_ o_ W_ L_ ({ frames := 6, cells := 2, slots := 7, locals := 77 } : Room).cells ({ frames := 6, cells := 2, slots := 7, locals := 77 } : Room).slots) := by
  refine MetFree.of_bodySF (plainFor_of_name pn_si) hisR ?_
  intro pP eE sS mI args below meth cC s₁ Bd hml0 hP hK
  obtain ⟨rfl, hZ, hh⟩ := hP
  have hx := Bd.exec
  have hby := Bd.bytes
  have hml : cC.maxLocals = 1 := hml0
  have hown : sS.vm.findClass "java/util/HashSet" = some mI.cls := by have z := findClass_of_methodNamed Bd.named; exact z
  have hnm := (name_of_methodNamed Bd.named Bd.method).1
  have X0 : Stand pP lL eE ({ frames := 6, cells := 2, slots := 7, locals := 77 } : Room) sS mI #[(.ref s)] below meth cC s₁ [] 0 0 := Stand.of_body Bd
  have e0 : s₁.heap = h0 := by rw [← hh, Bd.state]; rfl
  have N0 := Fr.nil n0
  obtain ⟨G, hG, hst, hend⟩ := own_abs pP eE below sS (own_Qsi Z m h0 n0) ({ frames := 6, cells := 2, slots := 7, locals := 77 } : Room).cells ({ frames := 6, cells := 2, slots := 7, locals := 77 } : Room).slots
  refine hG (S := s₁.setTop (entryFrame mI #[(.ref s)] 1)) (hst (fun t_ kt_ => castTop (ef_si mI s) kt_) ?_)
  have Z1 := Nat.le_refl h0.size
  have K0 := Keep.refl h0 [m]
  show G (s₁.setTop (mkF mI 0 #[.val (.ref s)] []))
  refine o_aloadN hst X0.here hx (hb hby dsi_0) (pc' := 1) rfl rfl rfl ?_
  obtain ⟨T_1, X_1, e_1, st_1⟩ := getF X0 hx hZ hown (host := "") (Or.inl (own_w112 hw)) Via.refl e0 F_map_s (g := (mkF mI 1 #[.val (.ref s)] [(.ref s)])) rfl rfl (hb hby dsi_1)
  refine hst st_1 ?_
  show G (T_1.setTop (mkF mI 4 #[.val (.ref s)] [(.ref m)]))
  obtain ⟨cq_2, kq_2, q_2a, q_2b, q_2c⟩ := isOf hZ e_1 E_m
  obtain ⟨_, _, ⟨T_2, L_2, k_2, n_2⟩, -, X_2, ⟨Lc_2, hQ_2, l_2, y_2, z_2⟩, st_2⟩ := X_1.virtualBack hx (y := (⟨"java/util/HashMap", "keySet", "()Ljava/util/Set;"⟩ : MethodName)) (z := (⟨"java/util/LinkedHashMap", "keySet", "()Ljava/util/Set;"⟩ : MethodName)) hown (mvT hZ (own_w224 hw)) (mvT hZ (own_w225 hw)) (own_nf (y1 := (⟨"java/util/HashMap", "size", "()I"⟩ : MethodName)) (notFace_of_selects (args := #[]) (mvT hZ (own_w212 hw))) rfl (mvT (args := #[]) hZ (own_w211 hw))) (mvT hZ (own_w227 hw)) (mvT hZ (own_w228 hw)) (by decide) (backOf (W := 0) (rmkk lL Z a0 hw [] m  h0 n0 Z0 F_size_m F_keySet_m F_head_m F_modCount_m E_m le_n0_m) hZ (own_w229 hw) (own_w73 hw) (by decide) (by decide)) q_2a q_2c (g := (mkF mI 4 #[.val (.ref s)] [(.ref m)])) rfl (by rw [hml]; rfl) (Steps.refl _) (argsL := []) (rest := []) (lenOf pd_10 rfl) rfl (by show 2 * 0 + _ ≤ _; exact Nat.le_of_eq rfl) (hb hby dsi_4) (fun _ _ => ⟨rfl, e_1, (by decide : 0 + 1 ≤ _), (by decide : 0 + 2 ≤ _)⟩)
  dsimp only [Pt.U, Pt.locs, Pt.cells, Pt.slots] at X_2 l_2 y_2 z_2 st_2 hQ_2
  subst l_2 y_2 z_2
  obtain ⟨ks, rfl, N_2q, K_2, le_ks, GF_size_m, GF_keySet_m, GF_head_m, GF_modCount_m, GE_ks, GF_this_0_ks, GF_reversed_ks⟩ := hQ_2
  have le_hh_ks := Nat.le_trans Z1 le_ks
  have ne_m_ks : m ≠ ks := Nat.ne_of_lt (Nat.lt_of_lt_of_le E_m.lt le_ks)
  have Z0 := Nat.le_trans Z0 K_2.1
  have Z1 := Nat.le_trans Z1 K_2.1
  have K0 := K0.trans K_2 (allS (Or.inl (List.mem_of_getElem? (i := 0) rfl)) all0)
  have E_m := E_m.keep K_2
  have F_size_m := GF_size_m
  have F_keySet_m := GF_keySet_m
  have F_head_m := GF_head_m
  have F_modCount_m := GF_modCount_m
  have E_ks := GE_ks
  have F_this_0_ks := GF_this_0_ks
  have F_reversed_ks := GF_reversed_ks
  have N_2 := Fr.app N0 N_2q
  refine hst (fun _ kt => st_2.trans kt) ?_
  show G (T_2.setTop (mkF mI 7 #[.val (.ref s)] [(.ref ks)]))
  obtain ⟨cq_3, kq_3, q_3a, q_3b, q_3c⟩ := isOf hZ rfl E_ks
  obtain ⟨_, _, ⟨T_3, L_3, k_3, n_3⟩, -, X_3, ⟨Lc_3, hQ_3, l_3, y_3, z_3⟩, st_3⟩ := X_2.interfaceBack hx (xi := (⟨"java/util/Set", "iterator", "()Ljava/util/Iterator;"⟩ : MethodName)) (y := (⟨"java/util/LinkedHashMap$LinkedKeySet", "iterator", "()Ljava/util/Iterator;"⟩ : MethodName)) hown (mvT hZ (own_w252 hw)) (mvT hZ (own_w217 hw)) (mvT hZ (own_w218 hw)) (mvT hZ (own_w253 hw)) (mvT hZ (own_w254 hw)) (mvT hZ (own_w255 hw)) (mvT hZ (own_w256 hw)) (mvT hZ (own_w257 hw)) (by decide) (backOf (W := 0) (rmke lL Z a0 hw [] ks m T_2.heap n0 Z0 F_this_0_ks F_reversed_ks F_head_m F_modCount_m) hZ (own_w258 hw) (own_w240 hw) (by decide) (by decide)) q_3a q_3b q_3c (g := (mkF mI 7 #[.val (.ref s)] [(.ref ks)])) rfl (by rw [hml]; rfl) (Steps.refl _) (argsL := []) (rest := []) (lenOf pd_11 rfl) rfl (by show 2 * 0 + _ ≤ _; exact Nat.le_of_eq rfl) (hb hby dsi_7) (fun _ _ => ⟨rfl, rfl, (by decide : 1 + 1 ≤ _), (by decide : 2 + 5 ≤ _)⟩)
  dsimp only [Pt.U, Pt.locs, Pt.cells, Pt.slots] at X_3 l_3 y_3 z_3 st_3 hQ_3
  subst l_3 y_3 z_3
  obtain ⟨it, rfl, N_3q, K_3, E_it, F_next_it⟩ := hQ_3
  have Z0 := Nat.le_trans Z0 K_3.1
  have Z1 := Nat.le_trans Z1 K_3.1
  have K0 := K0.trans K_3 all0
  have E_m := E_m.keep K_3
  have F_size_m := F_size_m.keep K_3 nin0
  have F_keySet_m := F_keySet_m.keep K_3 nin0
  have F_head_m := F_head_m.keep K_3 nin0
  have F_modCount_m := F_modCount_m.keep K_3 nin0
  have E_ks := E_ks.keep K_3
  have F_this_0_ks := F_this_0_ks.keep K_3 nin0
  have F_reversed_ks := F_reversed_ks.keep K_3 nin0
  have N_3 := Fr.app N_2 N_3q
  refine hst (fun _ kt => st_3.trans kt) ?_
  show G (T_3.setTop (mkF mI 12 #[.val (.ref s)] [(.ref it)]))
  exact hend (own_goRet X_3 hx Bd.returns rfl (Or.inr (Or.inr (Or.inr (Or.inr ⟨rfl, rfl, rfl⟩)))) (hb hby dsi_12) Bd.notSynchronized (by exact ⟨it, ks, rfl, N_3, K0, le_hh_ks, E_it, F_next_it, F_size_m, F_keySet_m, F_head_m, F_modCount_m, E_ks, F_this_0_ks, F_reversed_ks⟩) (by decide) (by decide))
theorem dhn_0 : decode jdk_2616_method_2_code 0 = .ok (.aload_n 0, 1) := by decide +kernel
theorem dhn_1 : decode jdk_2616_method_2_code 1 = .ok (.getfield 26, 3) := by decide +kernel
theorem dhn_4 : decode jdk_2616_method_2_code 4 = .ok (.ifnull 7, 3) := by decide +kernel
theorem dhn_11 : decode jdk_2616_method_2_code 11 = .ok (.iconst 0, 1) := by decide +kernel
theorem dhn_12 : decode jdk_2616_method_2_code 12 = .ok (.ireturn, 1) := by decide +kernel
theorem ef_hn (mI : MethodId) (it : Addr) : entryFrame mI #[(.ref it)] 1 = mkF mI 0 #[.val (.ref it)] [] := by first | (simp [entryFrame, mkF, argsToLocals, Value.category]; done) | rfl
theorem pn_hn : plainName "java/util/LinkedHashMap$LinkedHashIterator" = true := by first | decide +kernel | (simp [plainName, overriddenIn]; done)
set_option maxRecDepth 65536 in
set_option maxHeartbeats 40000000 in
theorem rmhn (lL : Launch) (Z : State) (a0 : Array Value) (hw : ∀ d ∈ tables_1, d.before a0 Z = true) (ws : List Jvm.Cond) (it : Addr) (h0 : Heap) (n0 : Nat) (Z0 : n0 ≤ h0.size) (F_next_it : Fld Z h0 it "java/util/LinkedHashMap$LinkedHashIterator" "next" "Ljava/util/LinkedHashMap$Entry;" .null) :
    MetFree lL (⟨"java/util/LinkedHashMap$LinkedHashIterator", "hasNext", "()Z"⟩ : MethodName) (head1 (Jvm.Cond.code (⟨"java/util/LinkedHashMap$LinkedHashIterator", "hasNext", "()Z"⟩ : MethodName) jdk_2616_method_2_code 1 (some .boolean) :: ws) ({ frames := 0, cells := 0, slots := 0, locals := 0 } : Room)) (fun a_ U_ => a_ = #[(.ref it)] ∧ Z.Warmed39 U_.vm ∧ U_.heap = h0) (fun _ _ _ _ _ => True) (fun _ U_ o_ W_ => ∃ v_ L_, o_ = .returned v_ ∧ own_QI (0 : Int32) h0 n0 v_ W_.heap L_ ∧ FrameEnd U_ o_ W_ L_ ({ frames := 0, cells := 0, slots := 0, locals := 0 } : Room).cells ({ frames := 0, cells := 0, slots := 0, locals := 0 } : Room).slots) := by
  refine MetFree.of_bodySF (plainFor_of_name pn_hn) hisR ?_
  intro pP eE sS mI args below meth cC s₁ Bd hml0 hP hK
  obtain ⟨rfl, hZ, hh⟩ := hP
  have hx := Bd.exec
  have hby := Bd.bytes
  have hml : cC.maxLocals = 1 := hml0
  have hown : sS.vm.findClass "java/util/LinkedHashMap$LinkedHashIterator" = some mI.cls := by have z := findClass_of_methodNamed Bd.named; exact z
  have hnm := (name_of_methodNamed Bd.named Bd.method).1
  have X0 : Stand pP lL eE ({ frames := 0, cells := 0, slots := 0, locals := 0 } : Room) sS mI #[(.ref it)] below meth cC s₁ [] 0 0 := Stand.of_body Bd
  have e0 : s₁.heap = h0 := by rw [← hh, Bd.state]; rfl
  have N0 := Fr.nil n0
  obtain ⟨G, hG, hst, hend⟩ := own_abs pP eE below sS (own_QI (0 : Int32) h0 n0) ({ frames := 0, cells := 0, slots := 0, locals := 0 } : Room).cells ({ frames := 0, cells := 0, slots := 0, locals := 0 } : Room).slots
  refine hG (S := s₁.setTop (entryFrame mI #[(.ref it)] 1)) (hst (fun t_ kt_ => castTop (ef_hn mI it) kt_) ?_)
  show G (s₁.setTop (mkF mI 0 #[.val (.ref it)] []))
  refine o_aloadN hst X0.here hx (hb hby dhn_0) (pc' := 1) rfl rfl rfl ?_
  obtain ⟨T_1, X_1, e_1, st_1⟩ := getF X0 hx hZ hown (host := "") (Or.inl (own_w279 hw)) Via.refl e0 F_next_it (g := (mkF mI 1 #[.val (.ref it)] [(.ref it)])) rfl rfl (hb hby dhn_1)
  refine hst st_1 ?_
  show G (T_1.setTop (mkF mI 4 #[.val (.ref it)] [.null]))
  refine hst (fun _ kt => XS.ifnullYes X_1.here hx rfl (pc0 := 4) (pc' := 11) rfl (hb hby dhn_4) rfl (by decide) (by decide) kt) ?_
  show G (T_1.setTop (mkF mI 11 #[.val (.ref it)] []))
  refine o_iconst hst X_1.here hx (hb hby dhn_11) (pc' := 12) rfl (z := (0 : Int32)) rfl ?_
  exact hend (own_goRet X_1 hx Bd.returns rfl (Or.inl ⟨rfl, by simp, _, rfl⟩) (hb hby dhn_12) Bd.notSynchronized (by rw [e_1]; exact ⟨rfl, N0, rfl⟩) (by decide) (by decide))
theorem dmb_0 : decode prog_20_method_1_code 0 = .ok (.aload_n 0, 1) := by decide +kernel
theorem dmb_1 : decode prog_20_method_1_code 1 = .ok (.invokespecial 1, 3) := by decide +kernel
theorem dmb_4 : decode prog_20_method_1_code 4 = .ok (.aload_n 0, 1) := by decide +kernel
theorem dmb_5 : decode prog_20_method_1_code 5 = .ok (.aload_n 1, 1) := by decide +kernel
theorem dmb_6 : decode prog_20_method_1_code 6 = .ok (.putfield 7, 3) := by decide +kernel
theorem dmb_9 : decode prog_20_method_1_code 9 = .ok (.aload_n 0, 1) := by decide +kernel
theorem dmb_10 : decode prog_20_method_1_code 10 = .ok (.aload_n 2, 1) := by decide +kernel
theorem dmb_11 : decode prog_20_method_1_code 11 = .ok (.putfield 13, 3) := by decide +kernel
theorem dmb_14 : decode prog_20_method_1_code 14 = .ok (.return_, 1) := by decide +kernel
theorem ef_mb (mI : MethodId) (a : Addr) (b1 : Addr) (b2 : Addr) : entryFrame mI #[(.ref a), (.ref b1), (.ref b2)] 3 = mkF mI 0 #[.val (.ref a), .val (.ref b1), .val (.ref b2)] [] := by first | (simp [entryFrame, mkF, argsToLocals, Value.category]; done) | rfl
theorem pn_mb : plainName own_MB = true := by first | decide +kernel | (simp [plainName, overriddenIn]; done)
set_option maxRecDepth 65536 in
set_option maxHeartbeats 40000000 in
theorem rmmb (lL : Launch) (Z : State) (a0 : Array Value) (hw : ∀ d ∈ tables_1, d.before a0 Z = true) (ws : List Jvm.Cond) (a : Addr) (b1 : Addr) (b2 : Addr) (h0 : Heap) (n0 : Nat) (Z0 : n0 ≤ h0.size) (F_triples_a : Fld Z h0 a own_MB "triples" "[I" .null) (F_graphs_a : Fld Z h0 a own_MB "graphs" "[I" .null) (E_a : Exa Z h0 a own_MB) (le_n0_a : n0 ≤ a) :
    MetFree lL (⟨own_MB, "<init>", "([I[I)V"⟩ : MethodName) (head1 (Jvm.Cond.code (⟨own_MB, "<init>", "([I[I)V"⟩ : MethodName) prog_20_method_1_code 3 none :: ws) ({ frames := 2, cells := 0, slots := 0, locals := 24 } : Room)) (fun a_ U_ => a_ = #[(.ref a), (.ref b1), (.ref b2)] ∧ Z.Warmed39 U_.vm ∧ U_.heap = h0) (fun _ _ _ _ _ => True) (fun _ U_ o_ W_ => ∃ v_ L_, o_ = .returned v_ ∧ own_QK [a] h0 n0 v_ W_.heap L_ ∧ FrameEnd U_ o_ W_ L_ ({ frames := 2, cells := 0, slots := 0, locals := 24 } : Room).cells ({ frames := 2, cells := 0, slots := 0, locals := 24 } : Room).slots) := by
  refine MetFree.of_bodySF (plainFor_of_name pn_mb) hisR ?_
  intro pP eE sS mI args below meth cC s₁ Bd hml0 hP hK
  obtain ⟨rfl, hZ, hh⟩ := hP
  have hx := Bd.exec
  have hby := Bd.bytes
  have hml : cC.maxLocals = 3 := hml0
  have hown : sS.vm.findClass own_MB = some mI.cls := by have z := findClass_of_methodNamed Bd.named; exact z
  have hnm := (name_of_methodNamed Bd.named Bd.method).1
  have X0 : Stand pP lL eE ({ frames := 2, cells := 0, slots := 0, locals := 24 } : Room) sS mI #[(.ref a), (.ref b1), (.ref b2)] below meth cC s₁ [] 0 0 := Stand.of_body Bd
  have e0 : s₁.heap = h0 := by rw [← hh, Bd.state]; rfl
  have N0 := Fr.nil n0
  obtain ⟨G, hG, hst, hend⟩ := own_abs pP eE below sS (own_QK [a] h0 n0) ({ frames := 2, cells := 0, slots := 0, locals := 24 } : Room).cells ({ frames := 2, cells := 0, slots := 0, locals := 24 } : Room).slots
  refine hG (S := s₁.setTop (entryFrame mI #[(.ref a), (.ref b1), (.ref b2)] 3)) (hst (fun t_ kt_ => castTop (ef_mb mI a b1 b2) kt_) ?_)
  have Z1 := Nat.le_refl h0.size
  have K0 := Keep.refl h0 [a]
  show G (s₁.setTop (mkF mI 0 #[.val (.ref a), .val (.ref b1), .val (.ref b2)] []))
  refine o_aloadN hst X0.here hx (hb hby dmb_0) (pc' := 1) rfl rfl rfl ?_
  obtain ⟨_, _, ⟨T_1, L_1, k_1, n_1⟩, -, X_1, ⟨Lc_1, hQ_1, l_1, y_1, z_1⟩, st_1⟩ := X0.specialBack hx (y := (⟨"java/lang/Record", "<init>", "()V"⟩ : MethodName)) rfl hown (mvT hZ (own_w303 hw)) (mvT hZ (own_w304 hw)) (mvT hZ (own_w307 hw)) (by decide) (backOf (W := 0) (rmRC lL Z a0 hw [] a  h0 n0 Z0) hZ (own_w307 hw) (own_w306 hw) (by decide) (by decide)) (g := (mkF mI 1 #[.val (.ref a), .val (.ref b1), .val (.ref b2)] [(.ref a)])) rfl (by rw [hml]; rfl) (Steps.refl _) (a := a) (argsL := []) (rest := []) (lenOf pd_0 rfl) rfl (by show 2 * 0 + _ ≤ _; exact Nat.le_of_eq rfl) (hb hby dmb_1) (fun _ _ => ⟨rfl, e0, (by decide : 0 + 0 ≤ _), (by decide : 0 + 0 ≤ _)⟩)
  dsimp only [Pt.U, Pt.locs, Pt.cells, Pt.slots] at X_1 l_1 y_1 z_1 st_1 hQ_1
  subst l_1 y_1 z_1
  obtain ⟨rfl, N_1q, eh_1⟩ := hQ_1
  have N_1 := Fr.app N0 N_1q
  refine hst (fun _ kt => st_1.trans kt) ?_
  show G (T_1.setTop (mkF mI 4 #[.val (.ref a), .val (.ref b1), .val (.ref b2)] []))
  refine o_aloadN hst X_1.here hx (hb hby dmb_4) (pc' := 5) rfl rfl rfl ?_
  refine o_aloadN hst X_1.here hx (hb hby dmb_5) (pc' := 6) rfl rfl rfl ?_
  obtain ⟨T_2, h_2, X_2, e_2, W_2, st_2⟩ := putF X_1 hx hZ hown (host := "") (Or.inl (own_w309 hw)) Via.refl eh_1 F_triples_a E_a (Or.inr ⟨(own_w310 hw), rfl, hnm⟩) (own_w298 hw) (ty := (.array .int)) (by decide) rfl rfl (g := (mkF mI 6 #[.val (.ref a), .val (.ref b1), .val (.ref b2)] [(.ref b1), (.ref a)])) rfl rfl (hb hby dmb_6)
  have Z0 := Nat.le_trans Z0 (Keep.of_wr W_2).1
  have Z1 := Nat.le_trans Z1 (Keep.of_wr W_2).1
  have K0 := K0.wr W_2 (Or.inl (List.mem_of_getElem? (i := 0) rfl))
  have F_triples_a := F_triples_a.same W_2
  have F_graphs_a := F_graphs_a.other W_2 (Or.inr (slot_ne (Or.inr (own_w312 hw)) (Or.inr (own_w310 hw)) (by decide) (t := (.array .int)) (t' := (.array .int)) (by decide) (by decide)))
  have E_a := E_a.wr W_2
  have N_2 := Fr.snoc X_2 N_1 le_n0_a
  refine hst st_2 ?_
  show G (T_2.setTop (mkF mI 9 #[.val (.ref a), .val (.ref b1), .val (.ref b2)] []))
  refine o_aloadN hst X_2.here hx (hb hby dmb_9) (pc' := 10) rfl rfl rfl ?_
  refine o_aloadN hst X_2.here hx (hb hby dmb_10) (pc' := 11) rfl rfl rfl ?_
  obtain ⟨T_3, h_3, X_3, e_3, W_3, st_3⟩ := putF X_2 hx hZ hown (host := "") (Or.inl (own_w311 hw)) Via.refl e_2 F_graphs_a E_a (Or.inr ⟨(own_w312 hw), rfl, hnm⟩) (own_w298 hw) (ty := (.array .int)) (by decide) rfl rfl (g := (mkF mI 11 #[.val (.ref a), .val (.ref b1), .val (.ref b2)] [(.ref b2), (.ref a)])) rfl rfl (hb hby dmb_11)
  have Z0 := Nat.le_trans Z0 (Keep.of_wr W_3).1
  have Z1 := Nat.le_trans Z1 (Keep.of_wr W_3).1
  have K0 := K0.wr W_3 (Or.inl (List.mem_of_getElem? (i := 0) rfl))
  have F_triples_a := F_triples_a.other W_3 (Or.inr (slot_ne (Or.inr (own_w310 hw)) (Or.inr (own_w312 hw)) (by decide) (t := (.array .int)) (t' := (.array .int)) (by decide) (by decide)))
  have F_graphs_a := F_graphs_a.same W_3
  have E_a := E_a.wr W_3
  have N_3 := Fr.snoc X_3 N_2 le_n0_a
  refine hst st_3 ?_
  show G (T_3.setTop (mkF mI 14 #[.val (.ref a), .val (.ref b1), .val (.ref b2)] []))
  exact hend (own_goVoid X_3 hx Bd.returns (hb hby dmb_14) Bd.notSynchronized (by rw [e_3]; exact ⟨rfl, N_3, K0⟩) (by decide) (by decide))
def own_Qmb (Z : State) (m : Addr) (h0 : Heap) (n0 : Nat) (v : Option Value) (h : Heap) (L : List Loc) : Prop := ∃ mb ks : Addr, v = some (.ref mb) ∧ Fr n0 L ∧ Keep h0 h [m] ∧ h0.size ≤ ks ∧ Fld Z h m "java/util/HashMap" "size" "I" (.int (0 : Int32)) ∧ Fld Z h m "java/util/AbstractMap" "keySet" "Ljava/util/Set;" (.ref ks) ∧ Fld Z h m "java/util/LinkedHashMap" "head" "Ljava/util/LinkedHashMap$Entry;" .null ∧ Fld Z h m "java/util/HashMap" "modCount" "I" (.int (0 : Int32)) ∧ Exa Z h ks "java/util/LinkedHashMap$LinkedKeySet" ∧ Fld Z h ks "java/util/LinkedHashMap$LinkedKeySet" "this$0" "Ljava/util/LinkedHashMap;" (.ref m) ∧ Fld Z h ks "java/util/LinkedHashMap$LinkedKeySet" "reversed" "Z" (.int (0 : Int32))
def own_Qmb2  (h0 : Heap) (n0 : Nat) (v : Option Value) (h : Heap) (L : List Loc) : Prop := ∃ mb : Addr, v = some (.ref mb) ∧ Fr n0 L ∧ Keep h0 h []
theorem dM0_0 : decode prog_37_method_6_code 0 = .ok (.aload_n 0, 1) := by decide +kernel
theorem dM0_1 : decode prog_37_method_6_code 1 = .ok (.getfield 48, 3) := by decide +kernel
theorem dM0_4 : decode prog_37_method_6_code 4 = .ok (.aload_n 0, 1) := by decide +kernel
theorem dM0_5 : decode prog_37_method_6_code 5 = .ok (.getfield 25, 3) := by decide +kernel
theorem dM0_8 : decode prog_37_method_6_code 8 = .ok (.invokeinterface 62 1, 5) := by decide +kernel
theorem dM0_13 : decode prog_37_method_6_code 13 = .ok (.iadd, 1) := by decide +kernel
theorem dM0_14 : decode prog_37_method_6_code 14 = .ok (.istore_n 1, 1) := by decide +kernel
theorem dM0_15 : decode prog_37_method_6_code 15 = .ok (.iload_n 1, 1) := by decide +kernel
theorem dM0_16 : decode prog_37_method_6_code 16 = .ok (.newarray .int, 2) := by decide +kernel
theorem dM0_18 : decode prog_37_method_6_code 18 = .ok (.astore_n 2, 1) := by decide +kernel
theorem dM0_19 : decode prog_37_method_6_code 19 = .ok (.iload_n 1, 1) := by decide +kernel
theorem dM0_20 : decode prog_37_method_6_code 20 = .ok (.newarray .int, 2) := by decide +kernel
theorem dM0_22 : decode prog_37_method_6_code 22 = .ok (.astore_n 3, 1) := by decide +kernel
theorem dM0_23 : decode prog_37_method_6_code 23 = .ok (.iconst 0, 1) := by decide +kernel
theorem dM0_24 : decode prog_37_method_6_code 24 = .ok (.istore 4, 2) := by decide +kernel
theorem dM0_26 : decode prog_37_method_6_code 26 = .ok (.iload 4, 2) := by decide +kernel
theorem dM0_28 : decode prog_37_method_6_code 28 = .ok (.aload_n 0, 1) := by decide +kernel
theorem dM0_29 : decode prog_37_method_6_code 29 = .ok (.getfield 48, 3) := by decide +kernel
theorem dM0_32 : decode prog_37_method_6_code 32 = .ok (.if_icmp .ge 26, 3) := by decide +kernel
theorem dM0_58 : decode prog_37_method_6_code 58 = .ok (.aload_n 0, 1) := by decide +kernel
theorem dM0_59 : decode prog_37_method_6_code 59 = .ok (.getfield 48, 3) := by decide +kernel
theorem dM0_62 : decode prog_37_method_6_code 62 = .ok (.istore 4, 2) := by decide +kernel
theorem dM0_64 : decode prog_37_method_6_code 64 = .ok (.aload_n 0, 1) := by decide +kernel
theorem dM0_65 : decode prog_37_method_6_code 65 = .ok (.getfield 25, 3) := by decide +kernel
theorem dM0_68 : decode prog_37_method_6_code 68 = .ok (.invokeinterface 65 1, 5) := by decide +kernel
theorem dM0_73 : decode prog_37_method_6_code 73 = .ok (.astore 5, 2) := by decide +kernel
theorem dM0_75 : decode prog_37_method_6_code 75 = .ok (.aload 5, 2) := by decide +kernel
theorem dM0_77 : decode prog_37_method_6_code 77 = .ok (.invokeinterface 69 1, 5) := by decide +kernel
theorem dM0_82 : decode prog_37_method_6_code 82 = .ok (.ifCond .eq 41, 3) := by decide +kernel
theorem dM0_123 : decode prog_37_method_6_code 123 = .ok (.new 83, 3) := by decide +kernel
theorem dM0_126 : decode prog_37_method_6_code 126 = .ok (.dup, 1) := by decide +kernel
theorem dM0_127 : decode prog_37_method_6_code 127 = .ok (.aload_n 2, 1) := by decide +kernel
theorem dM0_128 : decode prog_37_method_6_code 128 = .ok (.aload_n 3, 1) := by decide +kernel
theorem dM0_129 : decode prog_37_method_6_code 129 = .ok (.invokespecial 85, 3) := by decide +kernel
theorem dM0_132 : decode prog_37_method_6_code 132 = .ok (.areturn, 1) := by decide +kernel
theorem ef_M0 (mI : MethodId) (t : Addr) : entryFrame mI #[(.ref t)] 8 = mkF mI 0 #[.val (.ref t), .unset, .unset, .unset, .unset, .unset, .unset, .unset] [] := by first | (simp [entryFrame, mkF, argsToLocals, Value.category]; done) | rfl
theorem pn_M0 : plainName own_TT = true := by first | decide +kernel | (simp [plainName, overriddenIn]; done)
set_option maxRecDepth 65536 in
set_option maxHeartbeats 40000000 in
theorem rmM0 (lL : Launch) (Z : State) (a0 : Array Value) (hw : ∀ d ∈ tables_1, d.before a0 Z = true) (ws : List Jvm.Cond) (t : Addr) (s : Addr) (m : Addr) (bf : Addr) (kf : ClassId) (h0 : Heap) (n0 : Nat) (Z0 : n0 ≤ h0.size) (E_t : Exa Z h0 t own_TT) (F_size_t : Fld Z h0 t own_TT "size" "I" (.int (0 : Int32))) (F_otherGraphs_t : Fld Z h0 t own_TT "otherGraphs" "Ljava/util/Set;" (.ref s)) (F_firstGraphs_t : Fld Z h0 t own_TT "firstGraphs" "[I" (.ref bf)) (V_bf : Arv Z h0 bf kf .int (1024 : Int32) [] (.int (0 : Int32))) (E_s : Exa Z h0 s "java/util/LinkedHashSet") (F_map_s : Fld Z h0 s "java/util/HashSet" "map" "Ljava/util/HashMap;" (.ref m)) (E_m : Exa Z h0 m "java/util/LinkedHashMap") (F_size_m : Fld Z h0 m "java/util/HashMap" "size" "I" (.int (0 : Int32))) (F_keySet_m : Fld Z h0 m "java/util/AbstractMap" "keySet" "Ljava/util/Set;" .null) (F_head_m : Fld Z h0 m "java/util/LinkedHashMap" "head" "Ljava/util/LinkedHashMap$Entry;" .null) (F_modCount_m : Fld Z h0 m "java/util/HashMap" "modCount" "I" (.int (0 : Int32))) (le_n0_m : n0 ≤ m) :
    MetFree lL (⟨own_TT, "memberships", "()Lcom/example/weser/weser/core/Memberships;"⟩ : MethodName) (head1 (Jvm.Cond.code (⟨own_TT, "memberships", "()Lcom/example/weser/weser/core/Memberships;"⟩ : MethodName) prog_37_method_6_code 8 (some (.object own_MB)) :: ws) ({ frames := 7, cells := 5, slots := 9, locals := 89 } : Room)) (fun a_ U_ => a_ = #[(.ref t)] ∧ Z.Warmed39 U_.vm ∧ U_.heap = h0) (fun _ _ _ _ _ => True) (fun _ U_ o_ W_ => ∃ v_ L_, o_ = .returned v_ ∧ own_Qmb Z m h0 n0 v_ W_.heap L_ ∧ FrameEnd U_ o_ W_ L_ ({ frames := 7, cells := 5, slots := 9, locals := 89 } : Room).cells ({ frames := 7, cells := 5, slots := 9, locals := 89 } : Room).slots) := by
  refine MetFree.of_bodySF (plainFor_of_name pn_M0) hisR ?_
  intro pP eE sS mI args below meth cC s₁ Bd hml0 hP hK
  obtain ⟨rfl, hZ, hh⟩ := hP
  have hx := Bd.exec
  have hby := Bd.bytes
  have hml : cC.maxLocals = 8 := hml0
  have hown : sS.vm.findClass own_TT = some mI.cls := by have z := findClass_of_methodNamed Bd.named; exact z
  have hnm := (name_of_methodNamed Bd.named Bd.method).1
  have X0 : Stand pP lL eE ({ frames := 7, cells := 5, slots := 9, locals := 89 } : Room) sS mI #[(.ref t)] below meth cC s₁ [] 0 0 := Stand.of_body Bd
  have e0 : s₁.heap = h0 := by rw [← hh, Bd.state]; rfl
  have N0 := Fr.nil n0
  obtain ⟨G, hG, hst, hend⟩ := own_abs pP eE below sS (own_Qmb Z m h0 n0) ({ frames := 7, cells := 5, slots := 9, locals := 89 } : Room).cells ({ frames := 7, cells := 5, slots := 9, locals := 89 } : Room).slots
  refine hG (S := s₁.setTop (entryFrame mI #[(.ref t)] 8)) (hst (fun t_ kt_ => castTop (ef_M0 mI t) kt_) ?_)
  have Z1 := Nat.le_refl h0.size
  have K0 := Keep.refl h0 [m]
  show G (s₁.setTop (mkF mI 0 #[.val (.ref t), .unset, .unset, .unset, .unset, .unset, .unset, .unset] []))
  refine o_aloadN hst X0.here hx (hb hby dM0_0) (pc' := 1) rfl rfl rfl ?_
  obtain ⟨T_1, X_1, e_1, st_1⟩ := getF X0 hx hZ hown (host := "") (Or.inl (own_w129 hw)) Via.refl e0 F_size_t (g := (mkF mI 1 #[.val (.ref t), .unset, .unset, .unset, .unset, .unset, .unset, .unset] [(.ref t)])) rfl rfl (hb hby dM0_1)
  refine hst st_1 ?_
  show G (T_1.setTop (mkF mI 4 #[.val (.ref t), .unset, .unset, .unset, .unset, .unset, .unset, .unset] [(.int (0 : Int32))]))
  refine o_aloadN hst X_1.here hx (hb hby dM0_4) (pc' := 5) rfl rfl rfl ?_
  obtain ⟨T_2, X_2, e_2, st_2⟩ := getF X_1 hx hZ hown (host := "") (Or.inl (own_w114 hw)) Via.refl e_1 F_otherGraphs_t (g := (mkF mI 5 #[.val (.ref t), .unset, .unset, .unset, .unset, .unset, .unset, .unset] [(.ref t), (.int (0 : Int32))])) rfl rfl (hb hby dM0_5)
  refine hst st_2 ?_
  show G (T_2.setTop (mkF mI 8 #[.val (.ref t), .unset, .unset, .unset, .unset, .unset, .unset, .unset] [(.ref s), (.int (0 : Int32))]))
  obtain ⟨cq_3, kq_3, q_3a, q_3b, q_3c⟩ := isOf hZ e_2 E_s
  obtain ⟨_, _, ⟨T_3, L_3, k_3, n_3⟩, -, X_3, ⟨Lc_3, hQ_3, l_3, y_3, z_3⟩, st_3⟩ := X_2.interfaceBack hx (xi := (⟨"java/util/Set", "size", "()I"⟩ : MethodName)) (y := (⟨"java/util/HashSet", "size", "()I"⟩ : MethodName)) hown (mvT hZ (own_w200 hw)) (mvT hZ (own_w201 hw)) (mvT hZ (own_w202 hw)) (mvT hZ (own_w203 hw)) (mvT hZ (own_w204 hw)) (mvT hZ (own_w205 hw)) (mvT hZ (own_w206 hw)) (mvT hZ (own_w207 hw)) (by decide) (backOf (W := 1) (rmss lL Z a0 hw [] s m h0 n0 Z0 F_map_s E_m F_size_m) hZ (own_w208 hw) (own_w56 hw) (by decide) (by decide)) q_3a q_3b q_3c (g := (mkF mI 8 #[.val (.ref t), .unset, .unset, .unset, .unset, .unset, .unset, .unset] [(.ref s), (.int (0 : Int32))])) rfl (by rw [hml]; rfl) (Steps.refl _) (argsL := []) (rest := [(.int (0 : Int32))]) (lenOf pd_7 rfl) rfl (by show 2 * 0 + _ ≤ _; exact Nat.le_of_eq rfl) (hb hby dM0_8) (fun _ _ => ⟨rfl, e_2, (by decide : 0 + 0 ≤ _), (by decide : 0 + 0 ≤ _)⟩)
  dsimp only [Pt.U, Pt.locs, Pt.cells, Pt.slots] at X_3 l_3 y_3 z_3 st_3 hQ_3
  subst l_3 y_3 z_3
  obtain ⟨rfl, N_3q, eh_3⟩ := hQ_3
  have N_3 := Fr.app N0 N_3q
  refine hst (fun _ kt => st_3.trans kt) ?_
  show G (T_3.setTop (mkF mI 13 #[.val (.ref t), .unset, .unset, .unset, .unset, .unset, .unset, .unset] [(.int (0 : Int32)), (.int (0 : Int32))]))
  refine o_iadd hst X_3.here hx (hb hby dM0_13) (pc' := 14) rfl ?_
  rw [show ((0 : Int32) + (0 : Int32)) = (0 : Int32) from by decide]
  show G (T_3.setTop (mkF mI 14 #[.val (.ref t), .unset, .unset, .unset, .unset, .unset, .unset, .unset] [(.int (0 : Int32))]))
  refine o_istoreN hst X_3.here hx (hb hby dM0_14) (pc' := 15) rfl (Lt := #[.val (.ref t), .val (.int (0 : Int32)), .unset, .unset, .unset, .unset, .unset, .unset]) rfl ?_
  refine o_iloadN hst X_3.here hx (hb hby dM0_15) (pc' := 16) rfl rfl ?_
  obtain ⟨T_4, h_4, k_x1, X_4, e_4, E_4, A_4, st_4⟩ := newP (aty := .int) X_3 hx hZ (own_w36 hw) eh_3 (g := (mkF mI 16 #[.val (.ref t), .val (.int (0 : Int32)), .unset, .unset, .unset, .unset, .unset, .unset] [(.int (0 : Int32))])) rfl (hb hby dM0_16) rfl (by decide) (cap := 0) (by decide) (by decide) (by decide) (by decide)
  obtain ⟨x1, g_x1⟩ : ∃ z, z = h0.size := ⟨_, rfl⟩
  rw [← g_x1] at A_4 st_4
  have ne_t_x1 : t ≠ x1 := Nat.ne_of_lt (Nat.lt_of_lt_of_le E_t.lt (Nat.le_of_eq g_x1.symm))
  have ne_s_x1 : s ≠ x1 := Nat.ne_of_lt (Nat.lt_of_lt_of_le E_s.lt (Nat.le_of_eq g_x1.symm))
  have ne_m_x1 : m ≠ x1 := Nat.ne_of_lt (Nat.lt_of_lt_of_le E_m.lt (Nat.le_of_eq g_x1.symm))
  have ne_bf_x1 : bf ≠ x1 := Nat.ne_of_lt (Nat.lt_of_lt_of_le V_bf.lt (Nat.le_of_eq g_x1.symm))
  have le_n0_x1 : n0 ≤ x1 := Nat.le_trans Z0 (Nat.le_of_eq g_x1.symm)
  have le_hh_x1 : h0.size ≤ x1 := Nat.le_trans Z1 (Nat.le_of_eq g_x1.symm)
  have Z0 := Nat.le_trans Z0 E_4.1
  have Z1 := Nat.le_trans Z1 E_4.1
  have K0 := K0.ext E_4
  have E_t := E_t.ext E_4
  have F_size_t := F_size_t.ext E_4
  have F_otherGraphs_t := F_otherGraphs_t.ext E_4
  have F_firstGraphs_t := F_firstGraphs_t.ext E_4
  have V_bf := V_bf.ext E_4
  have E_s := E_s.ext E_4
  have F_map_s := F_map_s.ext E_4
  have E_m := E_m.ext E_4
  have F_size_m := F_size_m.ext E_4
  have F_keySet_m := F_keySet_m.ext E_4
  have F_head_m := F_head_m.ext E_4
  have F_modCount_m := F_modCount_m.ext E_4
  have V_x1 : Arv Z h_4 x1 k_x1 .int (0 : Int32) [] (.int (0 : Int32)) := Arv.new A_4 (by decide)
  refine hst st_4 ?_
  show G (T_4.setTop (mkF mI 18 #[.val (.ref t), .val (.int (0 : Int32)), .unset, .unset, .unset, .unset, .unset, .unset] [(.ref x1)]))
  refine o_astoreN hst X_4.here hx (hb hby dM0_18) (pc' := 19) rfl (Lt := #[.val (.ref t), .val (.int (0 : Int32)), .val (.ref x1), .unset, .unset, .unset, .unset, .unset]) rfl rfl ?_
  refine o_iloadN hst X_4.here hx (hb hby dM0_19) (pc' := 20) rfl rfl ?_
  obtain ⟨T_5, h_5, k_x2, X_5, e_5, E_5, A_5, st_5⟩ := newP (aty := .int) X_4 hx hZ (own_w36 hw) e_4 (g := (mkF mI 20 #[.val (.ref t), .val (.int (0 : Int32)), .val (.ref x1), .unset, .unset, .unset, .unset, .unset] [(.int (0 : Int32))])) rfl (hb hby dM0_20) rfl (by decide) (cap := 0) (by decide) (by decide) (by decide) (by decide)
  obtain ⟨x2, g_x2⟩ : ∃ z, z = h_4.size := ⟨_, rfl⟩
  rw [← g_x2] at A_5 st_5
  have ne_t_x2 : t ≠ x2 := Nat.ne_of_lt (Nat.lt_of_lt_of_le E_t.lt (Nat.le_of_eq g_x2.symm))
  have ne_s_x2 : s ≠ x2 := Nat.ne_of_lt (Nat.lt_of_lt_of_le E_s.lt (Nat.le_of_eq g_x2.symm))
  have ne_m_x2 : m ≠ x2 := Nat.ne_of_lt (Nat.lt_of_lt_of_le E_m.lt (Nat.le_of_eq g_x2.symm))
  have ne_bf_x2 : bf ≠ x2 := Nat.ne_of_lt (Nat.lt_of_lt_of_le V_bf.lt (Nat.le_of_eq g_x2.symm))
  have ne_x1_x2 : x1 ≠ x2 := Nat.ne_of_lt (Nat.lt_of_lt_of_le V_x1.lt (Nat.le_of_eq g_x2.symm))
  have le_n0_x2 : n0 ≤ x2 := Nat.le_trans Z0 (Nat.le_of_eq g_x2.symm)
  have le_hh_x2 : h0.size ≤ x2 := Nat.le_trans Z1 (Nat.le_of_eq g_x2.symm)
  have Z0 := Nat.le_trans Z0 E_5.1
  have Z1 := Nat.le_trans Z1 E_5.1
  have K0 := K0.ext E_5
  have E_t := E_t.ext E_5
  have F_size_t := F_size_t.ext E_5
  have F_otherGraphs_t := F_otherGraphs_t.ext E_5
  have F_firstGraphs_t := F_firstGraphs_t.ext E_5
  have V_bf := V_bf.ext E_5
  have E_s := E_s.ext E_5
  have F_map_s := F_map_s.ext E_5
  have E_m := E_m.ext E_5
  have F_size_m := F_size_m.ext E_5
  have F_keySet_m := F_keySet_m.ext E_5
  have F_head_m := F_head_m.ext E_5
  have F_modCount_m := F_modCount_m.ext E_5
  have V_x1 := V_x1.ext E_5
  have V_x2 : Arv Z h_5 x2 k_x2 .int (0 : Int32) [] (.int (0 : Int32)) := Arv.new A_5 (by decide)
  refine hst st_5 ?_
  show G (T_5.setTop (mkF mI 22 #[.val (.ref t), .val (.int (0 : Int32)), .val (.ref x1), .unset, .unset, .unset, .unset, .unset] [(.ref x2)]))
  refine o_astoreN hst X_5.here hx (hb hby dM0_22) (pc' := 23) rfl (Lt := #[.val (.ref t), .val (.int (0 : Int32)), .val (.ref x1), .val (.ref x2), .unset, .unset, .unset, .unset]) rfl rfl ?_
  refine o_iconst hst X_5.here hx (hb hby dM0_23) (pc' := 24) rfl (z := (0 : Int32)) rfl ?_
  refine o_istore hst X_5.here hx (hb hby dM0_24) (pc' := 26) rfl (Lt := #[.val (.ref t), .val (.int (0 : Int32)), .val (.ref x1), .val (.ref x2), .val (.int (0 : Int32)), .unset, .unset, .unset]) rfl ?_
  refine o_iload hst X_5.here hx (hb hby dM0_26) (pc' := 28) rfl rfl ?_
  refine o_aloadN hst X_5.here hx (hb hby dM0_28) (pc' := 29) rfl rfl rfl ?_
  obtain ⟨T_6, X_6, e_6, st_6⟩ := getF X_5 hx hZ hown (host := "") (Or.inl (own_w129 hw)) Via.refl e_5 F_size_t (g := (mkF mI 29 #[.val (.ref t), .val (.int (0 : Int32)), .val (.ref x1), .val (.ref x2), .val (.int (0 : Int32)), .unset, .unset, .unset] [(.ref t), (.int (0 : Int32))])) rfl rfl (hb hby dM0_29)
  refine hst st_6 ?_
  show G (T_6.setTop (mkF mI 32 #[.val (.ref t), .val (.int (0 : Int32)), .val (.ref x1), .val (.ref x2), .val (.int (0 : Int32)), .unset, .unset, .unset] [(.int (0 : Int32)), (.int (0 : Int32))]))
  have hc32 : ¬ ((0 : Int32) < (0 : Int32)) := by decide
  refine hst (fun _ kt => XS.icmpYes X_6.here hx rfl (pc0 := 32) (pc' := 58) rfl (hb hby dM0_32) rfl (flt hc32).2.1 (by decide) (by decide) kt) ?_
  show G (T_6.setTop (mkF mI 58 #[.val (.ref t), .val (.int (0 : Int32)), .val (.ref x1), .val (.ref x2), .val (.int (0 : Int32)), .unset, .unset, .unset] []))
  refine o_aloadN hst X_6.here hx (hb hby dM0_58) (pc' := 59) rfl rfl rfl ?_
  obtain ⟨T_7, X_7, e_7, st_7⟩ := getF X_6 hx hZ hown (host := "") (Or.inl (own_w129 hw)) Via.refl e_6 F_size_t (g := (mkF mI 59 #[.val (.ref t), .val (.int (0 : Int32)), .val (.ref x1), .val (.ref x2), .val (.int (0 : Int32)), .unset, .unset, .unset] [(.ref t)])) rfl rfl (hb hby dM0_59)
  refine hst st_7 ?_
  show G (T_7.setTop (mkF mI 62 #[.val (.ref t), .val (.int (0 : Int32)), .val (.ref x1), .val (.ref x2), .val (.int (0 : Int32)), .unset, .unset, .unset] [(.int (0 : Int32))]))
  refine o_istore hst X_7.here hx (hb hby dM0_62) (pc' := 64) rfl (Lt := #[.val (.ref t), .val (.int (0 : Int32)), .val (.ref x1), .val (.ref x2), .val (.int (0 : Int32)), .unset, .unset, .unset]) rfl ?_
  refine o_aloadN hst X_7.here hx (hb hby dM0_64) (pc' := 65) rfl rfl rfl ?_
  obtain ⟨T_8, X_8, e_8, st_8⟩ := getF X_7 hx hZ hown (host := "") (Or.inl (own_w114 hw)) Via.refl e_7 F_otherGraphs_t (g := (mkF mI 65 #[.val (.ref t), .val (.int (0 : Int32)), .val (.ref x1), .val (.ref x2), .val (.int (0 : Int32)), .unset, .unset, .unset] [(.ref t)])) rfl rfl (hb hby dM0_65)
  refine hst st_8 ?_
  show G (T_8.setTop (mkF mI 68 #[.val (.ref t), .val (.int (0 : Int32)), .val (.ref x1), .val (.ref x2), .val (.int (0 : Int32)), .unset, .unset, .unset] [(.ref s)]))
  obtain ⟨cq_9, kq_9, q_9a, q_9b, q_9c⟩ := isOf hZ e_8 E_s
  obtain ⟨_, _, ⟨T_9, L_9, k_9, n_9⟩, -, X_9, ⟨Lc_9, hQ_9, l_9, y_9, z_9⟩, st_9⟩ := X_8.interfaceBack hx (xi := (⟨"java/util/Set", "iterator", "()Ljava/util/Iterator;"⟩ : MethodName)) (y := (⟨"java/util/HashSet", "iterator", "()Ljava/util/Iterator;"⟩ : MethodName)) hown (mvT hZ (own_w216 hw)) (mvT hZ (own_w217 hw)) (mvT hZ (own_w218 hw)) (mvT hZ (own_w219 hw)) (mvT hZ (own_w220 hw)) (mvT hZ (own_w221 hw)) (mvT hZ (own_w222 hw)) (mvT hZ (own_w207 hw)) (by decide) (backOf (W := 0) (rmsi lL Z a0 hw [] s m h_5 n0 Z0 F_map_s E_m F_size_m F_keySet_m F_head_m F_modCount_m le_n0_m) hZ (own_w223 hw) (own_w56 hw) (by decide) (by decide)) q_9a q_9b q_9c (g := (mkF mI 68 #[.val (.ref t), .val (.int (0 : Int32)), .val (.ref x1), .val (.ref x2), .val (.int (0 : Int32)), .unset, .unset, .unset] [(.ref s)])) rfl (by rw [hml]; rfl) (Steps.refl _) (argsL := []) (rest := []) (lenOf pd_11 rfl) rfl (by show 2 * 0 + _ ≤ _; exact Nat.le_of_eq rfl) (hb hby dM0_68) (fun _ _ => ⟨rfl, e_8, (by decide : 2 + 2 ≤ _), (by decide : 0 + 7 ≤ _)⟩)
  dsimp only [Pt.U, Pt.locs, Pt.cells, Pt.slots] at X_9 l_9 y_9 z_9 st_9 hQ_9
  subst l_9 y_9 z_9
  obtain ⟨it, ks, rfl, N_9q, K_9, le_ks, E_it, F_next_it, GF_size_m, GF_keySet_m, GF_head_m, GF_modCount_m, GE_ks, GF_this_0_ks, GF_reversed_ks⟩ := hQ_9
  have le_hh_ks := Nat.le_trans Z1 le_ks
  have ne_t_m : t ≠ m := ne_exa E_t E_m (by decide)
  have ne_bf_m : bf ≠ m := Ne.symm (own_ne_arv E_m (own_w72 hw) V_bf)
  have ne_s_m : s ≠ m := ne_exa E_s E_m (by decide)
  have Z0 := Nat.le_trans Z0 K_9.1
  have Z1 := Nat.le_trans Z1 K_9.1
  have K0 := K0.trans K_9 (allS (Or.inl (List.mem_of_getElem? (i := 0) rfl)) all0)
  have E_t := E_t.keep K_9
  have F_size_t := F_size_t.keep K_9 (ninS ne_t_m nin0)
  have F_otherGraphs_t := F_otherGraphs_t.keep K_9 (ninS ne_t_m nin0)
  have F_firstGraphs_t := F_firstGraphs_t.keep K_9 (ninS ne_t_m nin0)
  have V_bf := V_bf.keep K_9 (ninS ne_bf_m nin0)
  have E_s := E_s.keep K_9
  have F_map_s := F_map_s.keep K_9 (ninS ne_s_m nin0)
  have E_m := E_m.keep K_9
  have F_size_m := GF_size_m
  have F_keySet_m := GF_keySet_m
  have F_head_m := GF_head_m
  have F_modCount_m := GF_modCount_m
  have E_ks := GE_ks
  have F_this_0_ks := GF_this_0_ks
  have F_reversed_ks := GF_reversed_ks
  have N_9 := Fr.app N_3 N_9q
  refine hst (fun _ kt => st_9.trans kt) ?_
  show G (T_9.setTop (mkF mI 73 #[.val (.ref t), .val (.int (0 : Int32)), .val (.ref x1), .val (.ref x2), .val (.int (0 : Int32)), .unset, .unset, .unset] [(.ref it)]))
  refine o_astore hst X_9.here hx (hb hby dM0_73) (pc' := 75) rfl (Lt := #[.val (.ref t), .val (.int (0 : Int32)), .val (.ref x1), .val (.ref x2), .val (.int (0 : Int32)), .val (.ref it), .unset, .unset]) rfl rfl ?_
  refine o_aload hst X_9.here hx (hb hby dM0_75) (pc' := 77) rfl rfl rfl ?_
  obtain ⟨cq_10, kq_10, q_10a, q_10b, q_10c⟩ := isOf hZ rfl E_it
  obtain ⟨_, _, ⟨T_10, L_10, k_10, n_10⟩, -, X_10, ⟨Lc_10, hQ_10, l_10, y_10, z_10⟩, st_10⟩ := X_9.interfaceBack hx (xi := (⟨"java/util/Iterator", "hasNext", "()Z"⟩ : MethodName)) (y := (⟨"java/util/LinkedHashMap$LinkedHashIterator", "hasNext", "()Z"⟩ : MethodName)) hown (mvT hZ (own_w288 hw)) (mvT hZ (own_w289 hw)) (mvT hZ (own_w290 hw)) (mvT hZ (own_w291 hw)) (mvT hZ (own_w292 hw)) (mvT hZ (own_w293 hw)) (mvT hZ (own_w294 hw)) (mvT hZ (own_w295 hw)) (by decide) (backOf (W := 0) (rmhn lL Z a0 hw [] it  T_9.heap n0 Z0 F_next_it) hZ (own_w296 hw) (own_w270 hw) (by decide) (by decide)) q_10a q_10b q_10c (g := (mkF mI 77 #[.val (.ref t), .val (.int (0 : Int32)), .val (.ref x1), .val (.ref x2), .val (.int (0 : Int32)), .val (.ref it), .unset, .unset] [(.ref it)])) rfl (by rw [hml]; rfl) (Steps.refl _) (argsL := []) (rest := []) (lenOf pd_12 rfl) rfl (by show 2 * 0 + _ ≤ _; exact Nat.le_of_eq rfl) (hb hby dM0_77) (fun _ _ => ⟨rfl, rfl, (by decide : 4 + 0 ≤ _), (by decide : 7 + 0 ≤ _)⟩)
  dsimp only [Pt.U, Pt.locs, Pt.cells, Pt.slots] at X_10 l_10 y_10 z_10 st_10 hQ_10
  subst l_10 y_10 z_10
  obtain ⟨rfl, N_10q, eh_10⟩ := hQ_10
  have N_10 := Fr.app N_9 N_10q
  refine hst (fun _ kt => st_10.trans kt) ?_
  show G (T_10.setTop (mkF mI 82 #[.val (.ref t), .val (.int (0 : Int32)), .val (.ref x1), .val (.ref x2), .val (.int (0 : Int32)), .val (.ref it), .unset, .unset] [(.int (0 : Int32))]))
  have hc82 : (0 : Int32) = (0 : Int32) := rfl
  refine hst (fun _ kt => XS.ifYes X_10.here hx rfl (pc0 := 82) (pc' := 123) rfl (hb hby dM0_82) rfl ((if0 _ _).trans (teq hc82).1) (by decide) (by decide) kt) ?_
  show G (T_10.setTop (mkF mI 123 #[.val (.ref t), .val (.int (0 : Int32)), .val (.ref x1), .val (.ref x2), .val (.int (0 : Int32)), .val (.ref it), .unset, .unset] []))
  obtain ⟨T_11, h_11, X_11, e_11, E_11, A_11, D_11, -, st_11⟩ := newO X_10 hx hZ hown (own_w297 hw) (own_w298 hw) (own_w299 hw) eh_10 (g := (mkF mI 123 #[.val (.ref t), .val (.int (0 : Int32)), .val (.ref x1), .val (.ref x2), .val (.int (0 : Int32)), .val (.ref it), .unset, .unset] [])) rfl (hb hby dM0_123) (by decide) (by decide)
  obtain ⟨mb, g_mb⟩ : ∃ z, z = T_9.heap.size := ⟨_, rfl⟩
  rw [← g_mb] at A_11 D_11 st_11
  have ne_t_mb : t ≠ mb := Nat.ne_of_lt (Nat.lt_of_lt_of_le E_t.lt (Nat.le_of_eq g_mb.symm))
  have ne_s_mb : s ≠ mb := Nat.ne_of_lt (Nat.lt_of_lt_of_le E_s.lt (Nat.le_of_eq g_mb.symm))
  have ne_m_mb : m ≠ mb := Nat.ne_of_lt (Nat.lt_of_lt_of_le E_m.lt (Nat.le_of_eq g_mb.symm))
  have ne_bf_mb : bf ≠ mb := Nat.ne_of_lt (Nat.lt_of_lt_of_le V_bf.lt (Nat.le_of_eq g_mb.symm))
  have ne_ks_mb : ks ≠ mb := Nat.ne_of_lt (Nat.lt_of_lt_of_le E_ks.lt (Nat.le_of_eq g_mb.symm))
  have ne_it_mb : it ≠ mb := Nat.ne_of_lt (Nat.lt_of_lt_of_le E_it.lt (Nat.le_of_eq g_mb.symm))
  have le_n0_mb : n0 ≤ mb := Nat.le_trans Z0 (Nat.le_of_eq g_mb.symm)
  have le_hh_mb : h0.size ≤ mb := Nat.le_trans Z1 (Nat.le_of_eq g_mb.symm)
  have Z0 := Nat.le_trans Z0 E_11.1
  have Z1 := Nat.le_trans Z1 E_11.1
  have K0 := K0.ext E_11
  have E_t := E_t.ext E_11
  have F_size_t := F_size_t.ext E_11
  have F_otherGraphs_t := F_otherGraphs_t.ext E_11
  have F_firstGraphs_t := F_firstGraphs_t.ext E_11
  have V_bf := V_bf.ext E_11
  have E_s := E_s.ext E_11
  have F_map_s := F_map_s.ext E_11
  have E_m := E_m.ext E_11
  have F_size_m := F_size_m.ext E_11
  have F_keySet_m := F_keySet_m.ext E_11
  have F_head_m := F_head_m.ext E_11
  have F_modCount_m := F_modCount_m.ext E_11
  have E_ks := E_ks.ext E_11
  have F_this_0_ks := F_this_0_ks.ext E_11
  have F_reversed_ks := F_reversed_ks.ext E_11
  have E_it := E_it.ext E_11
  have F_next_it := F_next_it.ext E_11
  have E_mb : Exa Z h_11 mb own_MB := A_11
  have F_triples_mb : Fld Z h_11 mb own_MB "triples" "[I" .null := D_11 (Or.inr (own_w310 hw)) (ty := (.array .int)) (by decide)
  have F_graphs_mb : Fld Z h_11 mb own_MB "graphs" "[I" .null := D_11 (Or.inr (own_w312 hw)) (ty := (.array .int)) (by decide)
  refine hst st_11 ?_
  show G (T_11.setTop (mkF mI 126 #[.val (.ref t), .val (.int (0 : Int32)), .val (.ref x1), .val (.ref x2), .val (.int (0 : Int32)), .val (.ref it), .unset, .unset] [(.ref mb)]))
  refine o_dup hst X_11.here hx (hb hby dM0_126) (pc' := 127) rfl rfl ?_
  refine o_aloadN hst X_11.here hx (hb hby dM0_127) (pc' := 128) rfl rfl rfl ?_
  refine o_aloadN hst X_11.here hx (hb hby dM0_128) (pc' := 129) rfl rfl rfl ?_
  obtain ⟨_, _, ⟨T_12, L_12, k_12, n_12⟩, -, X_12, ⟨Lc_12, hQ_12, l_12, y_12, z_12⟩, st_12⟩ := X_11.specialBack hx (y := (⟨own_MB, "<init>", "([I[I)V"⟩ : MethodName)) rfl hown (mvT hZ (own_w300 hw)) (mvT hZ (own_w301 hw)) (mvT hZ (own_w302 hw)) (by decide) (backOf (W := 1) (rmmb lL Z a0 hw [] mb x1 x2  h_11 n0 Z0 F_triples_mb F_graphs_mb E_mb le_n0_mb) hZ (own_w302 hw) (own_w299 hw) (by decide) (by decide)) (g := (mkF mI 129 #[.val (.ref t), .val (.int (0 : Int32)), .val (.ref x1), .val (.ref x2), .val (.int (0 : Int32)), .val (.ref it), .unset, .unset] [(.ref x2), (.ref x1), (.ref mb), (.ref mb)])) rfl (by rw [hml]; rfl) (Steps.refl _) (a := mb) (argsL := [(.ref x1), (.ref x2)]) (rest := [(.ref mb)]) (lenOf pd_13 rfl) rfl (by show 2 * 0 + _ ≤ _; exact Nat.le_of_eq rfl) (hb hby dM0_129) (fun _ _ => ⟨rfl, e_11, (by decide : 5 + 0 ≤ _), (by decide : 9 + 0 ≤ _)⟩)
  dsimp only [Pt.U, Pt.locs, Pt.cells, Pt.slots] at X_12 l_12 y_12 z_12 st_12 hQ_12
  subst l_12 y_12 z_12
  obtain ⟨rfl, N_12q, K_12⟩ := hQ_12
  have Z0 := Nat.le_trans Z0 K_12.1
  have Z1 := Nat.le_trans Z1 K_12.1
  have K0 := K0.trans K_12 (allS (Or.inr le_hh_mb) all0)
  have E_t := E_t.keep K_12
  have F_size_t := F_size_t.keep K_12 (ninS ne_t_mb nin0)
  have F_otherGraphs_t := F_otherGraphs_t.keep K_12 (ninS ne_t_mb nin0)
  have F_firstGraphs_t := F_firstGraphs_t.keep K_12 (ninS ne_t_mb nin0)
  have V_bf := V_bf.keep K_12 (ninS ne_bf_mb nin0)
  have E_s := E_s.keep K_12
  have F_map_s := F_map_s.keep K_12 (ninS ne_s_mb nin0)
  have E_m := E_m.keep K_12
  have F_size_m := F_size_m.keep K_12 (ninS ne_m_mb nin0)
  have F_keySet_m := F_keySet_m.keep K_12 (ninS ne_m_mb nin0)
  have F_head_m := F_head_m.keep K_12 (ninS ne_m_mb nin0)
  have F_modCount_m := F_modCount_m.keep K_12 (ninS ne_m_mb nin0)
  have E_ks := E_ks.keep K_12
  have F_this_0_ks := F_this_0_ks.keep K_12 (ninS ne_ks_mb nin0)
  have F_reversed_ks := F_reversed_ks.keep K_12 (ninS ne_ks_mb nin0)
  have E_it := E_it.keep K_12
  have F_next_it := F_next_it.keep K_12 (ninS ne_it_mb nin0)
  have E_mb := E_mb.keep K_12
  have N_12 := Fr.app N_10 N_12q
  refine hst (fun _ kt => st_12.trans kt) ?_
  show G (T_12.setTop (mkF mI 132 #[.val (.ref t), .val (.int (0 : Int32)), .val (.ref x1), .val (.ref x2), .val (.int (0 : Int32)), .val (.ref it), .unset, .unset] [(.ref mb)]))
  exact hend (own_goRet X_12 hx Bd.returns rfl (Or.inr (Or.inr (Or.inr (Or.inr ⟨rfl, rfl, rfl⟩)))) (hb hby dM0_132) Bd.notSynchronized (by exact ⟨mb, ks, rfl, N_12, K0, le_hh_ks, F_size_m, F_keySet_m, F_head_m, F_modCount_m, E_ks, F_this_0_ks, F_reversed_ks⟩) (by decide) (by decide))
theorem dM3_0 : decode prog_37_method_6_code 0 = .ok (.aload_n 0, 1) := by decide +kernel
theorem dM3_1 : decode prog_37_method_6_code 1 = .ok (.getfield 48, 3) := by decide +kernel
theorem dM3_4 : decode prog_37_method_6_code 4 = .ok (.aload_n 0, 1) := by decide +kernel
theorem dM3_5 : decode prog_37_method_6_code 5 = .ok (.getfield 25, 3) := by decide +kernel
theorem dM3_8 : decode prog_37_method_6_code 8 = .ok (.invokeinterface 62 1, 5) := by decide +kernel
theorem dM3_13 : decode prog_37_method_6_code 13 = .ok (.iadd, 1) := by decide +kernel
theorem dM3_14 : decode prog_37_method_6_code 14 = .ok (.istore_n 1, 1) := by decide +kernel
theorem dM3_15 : decode prog_37_method_6_code 15 = .ok (.iload_n 1, 1) := by decide +kernel
theorem dM3_16 : decode prog_37_method_6_code 16 = .ok (.newarray .int, 2) := by decide +kernel
theorem dM3_18 : decode prog_37_method_6_code 18 = .ok (.astore_n 2, 1) := by decide +kernel
theorem dM3_19 : decode prog_37_method_6_code 19 = .ok (.iload_n 1, 1) := by decide +kernel
theorem dM3_20 : decode prog_37_method_6_code 20 = .ok (.newarray .int, 2) := by decide +kernel
theorem dM3_22 : decode prog_37_method_6_code 22 = .ok (.astore_n 3, 1) := by decide +kernel
theorem dM3_23 : decode prog_37_method_6_code 23 = .ok (.iconst 0, 1) := by decide +kernel
theorem dM3_24 : decode prog_37_method_6_code 24 = .ok (.istore 4, 2) := by decide +kernel
theorem dM3_26 : decode prog_37_method_6_code 26 = .ok (.iload 4, 2) := by decide +kernel
theorem dM3_28 : decode prog_37_method_6_code 28 = .ok (.aload_n 0, 1) := by decide +kernel
theorem dM3_29 : decode prog_37_method_6_code 29 = .ok (.getfield 48, 3) := by decide +kernel
theorem dM3_32 : decode prog_37_method_6_code 32 = .ok (.if_icmp .ge 26, 3) := by decide +kernel
theorem dM3_35 : decode prog_37_method_6_code 35 = .ok (.aload_n 2, 1) := by decide +kernel
theorem dM3_36 : decode prog_37_method_6_code 36 = .ok (.iload 4, 2) := by decide +kernel
theorem dM3_38 : decode prog_37_method_6_code 38 = .ok (.iload 4, 2) := by decide +kernel
theorem dM3_40 : decode prog_37_method_6_code 40 = .ok (.iastore, 1) := by decide +kernel
theorem dM3_41 : decode prog_37_method_6_code 41 = .ok (.aload_n 3, 1) := by decide +kernel
theorem dM3_42 : decode prog_37_method_6_code 42 = .ok (.iload 4, 2) := by decide +kernel
theorem dM3_44 : decode prog_37_method_6_code 44 = .ok (.aload_n 0, 1) := by decide +kernel
theorem dM3_45 : decode prog_37_method_6_code 45 = .ok (.getfield 19, 3) := by decide +kernel
theorem dM3_48 : decode prog_37_method_6_code 48 = .ok (.iload 4, 2) := by decide +kernel
theorem dM3_50 : decode prog_37_method_6_code 50 = .ok (.iaload, 1) := by decide +kernel
theorem dM3_51 : decode prog_37_method_6_code 51 = .ok (.iastore, 1) := by decide +kernel
theorem dM3_52 : decode prog_37_method_6_code 52 = .ok (.iinc 4 1, 3) := by decide +kernel
theorem dM3_55 : decode prog_37_method_6_code 55 = .ok (.goto (-29), 3) := by decide +kernel
theorem dM3_58 : decode prog_37_method_6_code 58 = .ok (.aload_n 0, 1) := by decide +kernel
theorem dM3_59 : decode prog_37_method_6_code 59 = .ok (.getfield 48, 3) := by decide +kernel
theorem dM3_62 : decode prog_37_method_6_code 62 = .ok (.istore 4, 2) := by decide +kernel
theorem dM3_64 : decode prog_37_method_6_code 64 = .ok (.aload_n 0, 1) := by decide +kernel
theorem dM3_65 : decode prog_37_method_6_code 65 = .ok (.getfield 25, 3) := by decide +kernel
theorem dM3_68 : decode prog_37_method_6_code 68 = .ok (.invokeinterface 65 1, 5) := by decide +kernel
theorem dM3_73 : decode prog_37_method_6_code 73 = .ok (.astore 5, 2) := by decide +kernel
theorem dM3_75 : decode prog_37_method_6_code 75 = .ok (.aload 5, 2) := by decide +kernel
theorem dM3_77 : decode prog_37_method_6_code 77 = .ok (.invokeinterface 69 1, 5) := by decide +kernel
theorem dM3_82 : decode prog_37_method_6_code 82 = .ok (.ifCond .eq 41, 3) := by decide +kernel
theorem dM3_123 : decode prog_37_method_6_code 123 = .ok (.new 83, 3) := by decide +kernel
theorem dM3_126 : decode prog_37_method_6_code 126 = .ok (.dup, 1) := by decide +kernel
theorem dM3_127 : decode prog_37_method_6_code 127 = .ok (.aload_n 2, 1) := by decide +kernel
theorem dM3_128 : decode prog_37_method_6_code 128 = .ok (.aload_n 3, 1) := by decide +kernel
theorem dM3_129 : decode prog_37_method_6_code 129 = .ok (.invokespecial 85, 3) := by decide +kernel
theorem dM3_132 : decode prog_37_method_6_code 132 = .ok (.areturn, 1) := by decide +kernel
theorem ef_M3 (mI : MethodId) (t : Addr) : entryFrame mI #[(.ref t)] 8 = mkF mI 0 #[.val (.ref t), .unset, .unset, .unset, .unset, .unset, .unset, .unset] [] := by first | (simp [entryFrame, mkF, argsToLocals, Value.category]; done) | rfl
theorem pn_M3 : plainName own_TT = true := by first | decide +kernel | (simp [plainName, overriddenIn]; done)
set_option maxRecDepth 65536 in
set_option maxHeartbeats 40000000 in
theorem rmM3 (lL : Launch) (Z : State) (a0 : Array Value) (hw : ∀ d ∈ tables_1, d.before a0 Z = true) (ws : List Jvm.Cond) (t : Addr) (s : Addr) (m : Addr) (bf : Addr) (kf : ClassId) (w0 : Int32) (w1 : Int32) (w2 : Int32) (h0 : Heap) (n0 : Nat) (Z0 : n0 ≤ h0.size) (E_t : Exa Z h0 t own_TT) (F_size_t : Fld Z h0 t own_TT "size" "I" (.int (3 : Int32))) (F_otherGraphs_t : Fld Z h0 t own_TT "otherGraphs" "Ljava/util/Set;" (.ref s)) (F_firstGraphs_t : Fld Z h0 t own_TT "firstGraphs" "[I" (.ref bf)) (V_bf : Arv Z h0 bf kf .int (1024 : Int32) [(.int w0), (.int w1), (.int w2)] (.int (0 : Int32))) (E_s : Exa Z h0 s "java/util/LinkedHashSet") (F_map_s : Fld Z h0 s "java/util/HashSet" "map" "Ljava/util/HashMap;" (.ref m)) (E_m : Exa Z h0 m "java/util/LinkedHashMap") (F_size_m : Fld Z h0 m "java/util/HashMap" "size" "I" (.int (0 : Int32))) (F_keySet_m : Fld Z h0 m "java/util/AbstractMap" "keySet" "Ljava/util/Set;" .null) (F_head_m : Fld Z h0 m "java/util/LinkedHashMap" "head" "Ljava/util/LinkedHashMap$Entry;" .null) (F_modCount_m : Fld Z h0 m "java/util/HashMap" "modCount" "I" (.int (0 : Int32))) (le_n0_m : n0 ≤ m) :
    MetFree lL (⟨own_TT, "memberships", "()Lcom/example/weser/weser/core/Memberships;"⟩ : MethodName) (head1 (Jvm.Cond.code (⟨own_TT, "memberships", "()Lcom/example/weser/weser/core/Memberships;"⟩ : MethodName) prog_37_method_6_code 8 (some (.object own_MB)) :: ws) ({ frames := 7, cells := 5, slots := 15, locals := 89 } : Room)) (fun a_ U_ => a_ = #[(.ref t)] ∧ Z.Warmed39 U_.vm ∧ U_.heap = h0) (fun _ _ _ _ _ => True) (fun _ U_ o_ W_ => ∃ v_ L_, o_ = .returned v_ ∧ own_Qmb Z m h0 n0 v_ W_.heap L_ ∧ FrameEnd U_ o_ W_ L_ ({ frames := 7, cells := 5, slots := 15, locals := 89 } : Room).cells ({ frames := 7, cells := 5, slots := 15, locals := 89 } : Room).slots) := by
  refine MetFree.of_bodySF (plainFor_of_name pn_M3) hisR ?_
  intro pP eE sS mI args below meth cC s₁ Bd hml0 hP hK
  obtain ⟨rfl, hZ, hh⟩ := hP
  have hx := Bd.exec
  have hby := Bd.bytes
  have hml : cC.maxLocals = 8 := hml0
  have hown : sS.vm.findClass own_TT = some mI.cls := by have z := findClass_of_methodNamed Bd.named; exact z
  have hnm := (name_of_methodNamed Bd.named Bd.method).1
  have X0 : Stand pP lL eE ({ frames := 7, cells := 5, slots := 15, locals := 89 } : Room) sS mI #[(.ref t)] below meth cC s₁ [] 0 0 := Stand.of_body Bd
  have e0 : s₁.heap = h0 := by rw [← hh, Bd.state]; rfl
  have N0 := Fr.nil n0
  obtain ⟨G, hG, hst, hend⟩ := own_abs pP eE below sS (own_Qmb Z m h0 n0) ({ frames := 7, cells := 5, slots := 15, locals := 89 } : Room).cells ({ frames := 7, cells := 5, slots := 15, locals := 89 } : Room).slots
  refine hG (S := s₁.setTop (entryFrame mI #[(.ref t)] 8)) (hst (fun t_ kt_ => castTop (ef_M3 mI t) kt_) ?_)
  have Z1 := Nat.le_refl h0.size
  have K0 := Keep.refl h0 [m]
  show G (s₁.setTop (mkF mI 0 #[.val (.ref t), .unset, .unset, .unset, .unset, .unset, .unset, .unset] []))
  refine o_aloadN hst X0.here hx (hb hby dM3_0) (pc' := 1) rfl rfl rfl ?_
  obtain ⟨T_1, X_1, e_1, st_1⟩ := getF X0 hx hZ hown (host := "") (Or.inl (own_w129 hw)) Via.refl e0 F_size_t (g := (mkF mI 1 #[.val (.ref t), .unset, .unset, .unset, .unset, .unset, .unset, .unset] [(.ref t)])) rfl rfl (hb hby dM3_1)
  refine hst st_1 ?_
  show G (T_1.setTop (mkF mI 4 #[.val (.ref t), .unset, .unset, .unset, .unset, .unset, .unset, .unset] [(.int (3 : Int32))]))
  refine o_aloadN hst X_1.here hx (hb hby dM3_4) (pc' := 5) rfl rfl rfl ?_
  obtain ⟨T_2, X_2, e_2, st_2⟩ := getF X_1 hx hZ hown (host := "") (Or.inl (own_w114 hw)) Via.refl e_1 F_otherGraphs_t (g := (mkF mI 5 #[.val (.ref t), .unset, .unset, .unset, .unset, .unset, .unset, .unset] [(.ref t), (.int (3 : Int32))])) rfl rfl (hb hby dM3_5)
  refine hst st_2 ?_
  show G (T_2.setTop (mkF mI 8 #[.val (.ref t), .unset, .unset, .unset, .unset, .unset, .unset, .unset] [(.ref s), (.int (3 : Int32))]))
  obtain ⟨cq_3, kq_3, q_3a, q_3b, q_3c⟩ := isOf hZ e_2 E_s
  obtain ⟨_, _, ⟨T_3, L_3, k_3, n_3⟩, -, X_3, ⟨Lc_3, hQ_3, l_3, y_3, z_3⟩, st_3⟩ := X_2.interfaceBack hx (xi := (⟨"java/util/Set", "size", "()I"⟩ : MethodName)) (y := (⟨"java/util/HashSet", "size", "()I"⟩ : MethodName)) hown (mvT hZ (own_w200 hw)) (mvT hZ (own_w201 hw)) (mvT hZ (own_w202 hw)) (mvT hZ (own_w203 hw)) (mvT hZ (own_w204 hw)) (mvT hZ (own_w205 hw)) (mvT hZ (own_w206 hw)) (mvT hZ (own_w207 hw)) (by decide) (backOf (W := 1) (rmss lL Z a0 hw [] s m h0 n0 Z0 F_map_s E_m F_size_m) hZ (own_w208 hw) (own_w56 hw) (by decide) (by decide)) q_3a q_3b q_3c (g := (mkF mI 8 #[.val (.ref t), .unset, .unset, .unset, .unset, .unset, .unset, .unset] [(.ref s), (.int (3 : Int32))])) rfl (by rw [hml]; rfl) (Steps.refl _) (argsL := []) (rest := [(.int (3 : Int32))]) (lenOf pd_7 rfl) rfl (by show 2 * 0 + _ ≤ _; exact Nat.le_of_eq rfl) (hb hby dM3_8) (fun _ _ => ⟨rfl, e_2, (by decide : 0 + 0 ≤ _), (by decide : 0 + 0 ≤ _)⟩)
  dsimp only [Pt.U, Pt.locs, Pt.cells, Pt.slots] at X_3 l_3 y_3 z_3 st_3 hQ_3
  subst l_3 y_3 z_3
  obtain ⟨rfl, N_3q, eh_3⟩ := hQ_3
  have N_3 := Fr.app N0 N_3q
  refine hst (fun _ kt => st_3.trans kt) ?_
  show G (T_3.setTop (mkF mI 13 #[.val (.ref t), .unset, .unset, .unset, .unset, .unset, .unset, .unset] [(.int (0 : Int32)), (.int (3 : Int32))]))
  refine o_iadd hst X_3.here hx (hb hby dM3_13) (pc' := 14) rfl ?_
  rw [show ((3 : Int32) + (0 : Int32)) = (3 : Int32) from by decide]
  show G (T_3.setTop (mkF mI 14 #[.val (.ref t), .unset, .unset, .unset, .unset, .unset, .unset, .unset] [(.int (3 : Int32))]))
  refine o_istoreN hst X_3.here hx (hb hby dM3_14) (pc' := 15) rfl (Lt := #[.val (.ref t), .val (.int (3 : Int32)), .unset, .unset, .unset, .unset, .unset, .unset]) rfl ?_
  refine o_iloadN hst X_3.here hx (hb hby dM3_15) (pc' := 16) rfl rfl ?_
  obtain ⟨T_4, h_4, k_x1, X_4, e_4, E_4, A_4, st_4⟩ := newP (aty := .int) X_3 hx hZ (own_w36 hw) eh_3 (g := (mkF mI 16 #[.val (.ref t), .val (.int (3 : Int32)), .unset, .unset, .unset, .unset, .unset, .unset] [(.int (3 : Int32))])) rfl (hb hby dM3_16) rfl (by decide) (cap := 3) (by decide) (by decide) (by decide) (by decide)
  obtain ⟨x1, g_x1⟩ : ∃ z, z = h0.size := ⟨_, rfl⟩
  rw [← g_x1] at A_4 st_4
  have ne_t_x1 : t ≠ x1 := Nat.ne_of_lt (Nat.lt_of_lt_of_le E_t.lt (Nat.le_of_eq g_x1.symm))
  have ne_s_x1 : s ≠ x1 := Nat.ne_of_lt (Nat.lt_of_lt_of_le E_s.lt (Nat.le_of_eq g_x1.symm))
  have ne_m_x1 : m ≠ x1 := Nat.ne_of_lt (Nat.lt_of_lt_of_le E_m.lt (Nat.le_of_eq g_x1.symm))
  have ne_bf_x1 : bf ≠ x1 := Nat.ne_of_lt (Nat.lt_of_lt_of_le V_bf.lt (Nat.le_of_eq g_x1.symm))
  have le_n0_x1 : n0 ≤ x1 := Nat.le_trans Z0 (Nat.le_of_eq g_x1.symm)
  have le_hh_x1 : h0.size ≤ x1 := Nat.le_trans Z1 (Nat.le_of_eq g_x1.symm)
  have Z0 := Nat.le_trans Z0 E_4.1
  have Z1 := Nat.le_trans Z1 E_4.1
  have K0 := K0.ext E_4
  have E_t := E_t.ext E_4
  have F_size_t := F_size_t.ext E_4
  have F_otherGraphs_t := F_otherGraphs_t.ext E_4
  have F_firstGraphs_t := F_firstGraphs_t.ext E_4
  have V_bf := V_bf.ext E_4
  have E_s := E_s.ext E_4
  have F_map_s := F_map_s.ext E_4
  have E_m := E_m.ext E_4
  have F_size_m := F_size_m.ext E_4
  have F_keySet_m := F_keySet_m.ext E_4
  have F_head_m := F_head_m.ext E_4
  have F_modCount_m := F_modCount_m.ext E_4
  have V_x1 : Arv Z h_4 x1 k_x1 .int (3 : Int32) [(.int (0 : Int32)), (.int (0 : Int32)), (.int (0 : Int32))] (.int (0 : Int32)) := (Arv.new A_4 (by decide)).pad (pad_rep [] (.int (0 : Int32)) 3)
  refine hst st_4 ?_
  show G (T_4.setTop (mkF mI 18 #[.val (.ref t), .val (.int (3 : Int32)), .unset, .unset, .unset, .unset, .unset, .unset] [(.ref x1)]))
  refine o_astoreN hst X_4.here hx (hb hby dM3_18) (pc' := 19) rfl (Lt := #[.val (.ref t), .val (.int (3 : Int32)), .val (.ref x1), .unset, .unset, .unset, .unset, .unset]) rfl rfl ?_
  refine o_iloadN hst X_4.here hx (hb hby dM3_19) (pc' := 20) rfl rfl ?_
  obtain ⟨T_5, h_5, k_x2, X_5, e_5, E_5, A_5, st_5⟩ := newP (aty := .int) X_4 hx hZ (own_w36 hw) e_4 (g := (mkF mI 20 #[.val (.ref t), .val (.int (3 : Int32)), .val (.ref x1), .unset, .unset, .unset, .unset, .unset] [(.int (3 : Int32))])) rfl (hb hby dM3_20) rfl (by decide) (cap := 3) (by decide) (by decide) (by decide) (by decide)
  obtain ⟨x2, g_x2⟩ : ∃ z, z = h_4.size := ⟨_, rfl⟩
  rw [← g_x2] at A_5 st_5
  have ne_t_x2 : t ≠ x2 := Nat.ne_of_lt (Nat.lt_of_lt_of_le E_t.lt (Nat.le_of_eq g_x2.symm))
  have ne_s_x2 : s ≠ x2 := Nat.ne_of_lt (Nat.lt_of_lt_of_le E_s.lt (Nat.le_of_eq g_x2.symm))
  have ne_m_x2 : m ≠ x2 := Nat.ne_of_lt (Nat.lt_of_lt_of_le E_m.lt (Nat.le_of_eq g_x2.symm))
  have ne_bf_x2 : bf ≠ x2 := Nat.ne_of_lt (Nat.lt_of_lt_of_le V_bf.lt (Nat.le_of_eq g_x2.symm))
  have ne_x1_x2 : x1 ≠ x2 := Nat.ne_of_lt (Nat.lt_of_lt_of_le V_x1.lt (Nat.le_of_eq g_x2.symm))
  have le_n0_x2 : n0 ≤ x2 := Nat.le_trans Z0 (Nat.le_of_eq g_x2.symm)
  have le_hh_x2 : h0.size ≤ x2 := Nat.le_trans Z1 (Nat.le_of_eq g_x2.symm)
  have Z0 := Nat.le_trans Z0 E_5.1
  have Z1 := Nat.le_trans Z1 E_5.1
  have K0 := K0.ext E_5
  have E_t := E_t.ext E_5
  have F_size_t := F_size_t.ext E_5
  have F_otherGraphs_t := F_otherGraphs_t.ext E_5
  have F_firstGraphs_t := F_firstGraphs_t.ext E_5
  have V_bf := V_bf.ext E_5
  have E_s := E_s.ext E_5
  have F_map_s := F_map_s.ext E_5
  have E_m := E_m.ext E_5
  have F_size_m := F_size_m.ext E_5
  have F_keySet_m := F_keySet_m.ext E_5
  have F_head_m := F_head_m.ext E_5
  have F_modCount_m := F_modCount_m.ext E_5
  have V_x1 := V_x1.ext E_5
  have V_x2 : Arv Z h_5 x2 k_x2 .int (3 : Int32) [(.int (0 : Int32)), (.int (0 : Int32)), (.int (0 : Int32))] (.int (0 : Int32)) := (Arv.new A_5 (by decide)).pad (pad_rep [] (.int (0 : Int32)) 3)
  refine hst st_5 ?_
  show G (T_5.setTop (mkF mI 22 #[.val (.ref t), .val (.int (3 : Int32)), .val (.ref x1), .unset, .unset, .unset, .unset, .unset] [(.ref x2)]))
  refine o_astoreN hst X_5.here hx (hb hby dM3_22) (pc' := 23) rfl (Lt := #[.val (.ref t), .val (.int (3 : Int32)), .val (.ref x1), .val (.ref x2), .unset, .unset, .unset, .unset]) rfl rfl ?_
  refine o_iconst hst X_5.here hx (hb hby dM3_23) (pc' := 24) rfl (z := (0 : Int32)) rfl ?_
  refine o_istore hst X_5.here hx (hb hby dM3_24) (pc' := 26) rfl (Lt := #[.val (.ref t), .val (.int (3 : Int32)), .val (.ref x1), .val (.ref x2), .val (.int (0 : Int32)), .unset, .unset, .unset]) rfl ?_
  refine o_iload hst X_5.here hx (hb hby dM3_26) (pc' := 28) rfl rfl ?_
  refine o_aloadN hst X_5.here hx (hb hby dM3_28) (pc' := 29) rfl rfl rfl ?_
  obtain ⟨T_6, X_6, e_6, st_6⟩ := getF X_5 hx hZ hown (host := "") (Or.inl (own_w129 hw)) Via.refl e_5 F_size_t (g := (mkF mI 29 #[.val (.ref t), .val (.int (3 : Int32)), .val (.ref x1), .val (.ref x2), .val (.int (0 : Int32)), .unset, .unset, .unset] [(.ref t), (.int (0 : Int32))])) rfl rfl (hb hby dM3_29)
  refine hst st_6 ?_
  show G (T_6.setTop (mkF mI 32 #[.val (.ref t), .val (.int (3 : Int32)), .val (.ref x1), .val (.ref x2), .val (.int (0 : Int32)), .unset, .unset, .unset] [(.int (3 : Int32)), (.int (0 : Int32))]))
  have hc32_0 : (0 : Int32) < (3 : Int32) := by decide
  refine hst (fun _ kt => XS.icmpNo X_6.here hx rfl (hb hby dM3_32) rfl (tlt hc32_0).2.1 kt) ?_
  show G (T_6.setTop (mkF mI 35 #[.val (.ref t), .val (.int (3 : Int32)), .val (.ref x1), .val (.ref x2), .val (.int (0 : Int32)), .unset, .unset, .unset] []))
  refine o_aloadN hst X_6.here hx (hb hby dM3_35) (pc' := 36) rfl rfl rfl ?_
  refine o_iload hst X_6.here hx (hb hby dM3_36) (pc' := 38) rfl rfl ?_
  refine o_iload hst X_6.here hx (hb hby dM3_38) (pc' := 40) rfl rfl ?_
  obtain ⟨cl_7, Ar_7, q_7, S_7, M_7, Hs_7, Gs_7⟩ := V_x1
  have hin_7 : ¬ ((0 : Int32) < 0 ∨ cl_7.slots.size ≤ ((0 : Int32)).toNatClampNeg) := inb_of S_7 ⟨by decide, by decide⟩
  obtain ⟨T_7, h_7, X_7, e_7, W_7, st_7⟩ := stI X_6 hx hZ e_6 Ar_7 (j := (0 : Int32)) hin_7 (g := (mkF mI 40 #[.val (.ref t), .val (.int (3 : Int32)), .val (.ref x1), .val (.ref x2), .val (.int (0 : Int32)), .unset, .unset, .unset] [(.int (0 : Int32)), (.int (0 : Int32)), (.ref x1)])) rfl rfl (hb hby dM3_40)
  have V_x1 := Arv.set Ar_7 q_7 S_7 M_7 Hs_7 Gs_7 rfl W_7 0 rfl (Nat.le_of_ble_eq_true rfl)
  have V_x1 : Arv Z h_7 x1 k_x1 .int (3 : Int32) [(.int (0 : Int32)), (.int (0 : Int32)), (.int (0 : Int32))] (.int (0 : Int32)) := V_x1
  have Z0 := Nat.le_trans Z0 (Keep.of_wr W_7).1
  have Z1 := Nat.le_trans Z1 (Keep.of_wr W_7).1
  have K0 := K0.wr W_7 (Or.inr le_hh_x1)
  have E_t := E_t.wr W_7
  have F_size_t := F_size_t.other W_7 (Or.inl ne_t_x1)
  have F_otherGraphs_t := F_otherGraphs_t.other W_7 (Or.inl ne_t_x1)
  have F_firstGraphs_t := F_firstGraphs_t.other W_7 (Or.inl ne_t_x1)
  have V_bf := V_bf.other W_7 ne_bf_x1
  have E_s := E_s.wr W_7
  have F_map_s := F_map_s.other W_7 (Or.inl ne_s_x1)
  have E_m := E_m.wr W_7
  have F_size_m := F_size_m.other W_7 (Or.inl ne_m_x1)
  have F_keySet_m := F_keySet_m.other W_7 (Or.inl ne_m_x1)
  have F_head_m := F_head_m.other W_7 (Or.inl ne_m_x1)
  have F_modCount_m := F_modCount_m.other W_7 (Or.inl ne_m_x1)
  have V_x2 := V_x2.other W_7 (Ne.symm ne_x1_x2)
  have N_7 := Fr.snoc X_7 N_3 le_n0_x1
  refine hst st_7 ?_
  show G (T_7.setTop (mkF mI 41 #[.val (.ref t), .val (.int (3 : Int32)), .val (.ref x1), .val (.ref x2), .val (.int (0 : Int32)), .unset, .unset, .unset] []))
  refine o_aloadN hst X_7.here hx (hb hby dM3_41) (pc' := 42) rfl rfl rfl ?_
  refine o_iload hst X_7.here hx (hb hby dM3_42) (pc' := 44) rfl rfl ?_
  refine o_aloadN hst X_7.here hx (hb hby dM3_44) (pc' := 45) rfl rfl rfl ?_
  obtain ⟨T_8, X_8, e_8, st_8⟩ := getF X_7 hx hZ hown (host := "") (Or.inl (own_w43 hw)) Via.refl e_7 F_firstGraphs_t (g := (mkF mI 45 #[.val (.ref t), .val (.int (3 : Int32)), .val (.ref x1), .val (.ref x2), .val (.int (0 : Int32)), .unset, .unset, .unset] [(.ref t), (.int (0 : Int32)), (.ref x2)])) rfl rfl (hb hby dM3_45)
  refine hst st_8 ?_
  show G (T_8.setTop (mkF mI 48 #[.val (.ref t), .val (.int (3 : Int32)), .val (.ref x1), .val (.ref x2), .val (.int (0 : Int32)), .unset, .unset, .unset] [(.ref bf), (.int (0 : Int32)), (.ref x2)]))
  refine o_iload hst X_8.here hx (hb hby dM3_48) (pc' := 50) rfl rfl ?_
  obtain ⟨cl_9, Ar_9, -, S_9, M_9, Hs_9, -⟩ := id V_bf
  have hin_9 : ¬ ((0 : Int32) < 0 ∨ cl_9.slots.size ≤ ((0 : Int32)).toNatClampNeg) := inb_of S_9 ⟨by decide, by decide⟩
  have hat_9 : cl_9.slots[((0 : Int32)).toNatClampNeg]? = some (.int w0) := Has.at Hs_9 hin_9 rfl
  refine hst (X_8.iaload hx (j := (0 : Int32)) (v := (.int w0)) (by rw [e_8]; exact Ar_9.1) (State.isArrayOf_alike hZ.alike Ar_9.2.1) Ar_9.2.2 hin_9 hat_9 (g := (mkF mI 50 #[.val (.ref t), .val (.int (3 : Int32)), .val (.ref x1), .val (.ref x2), .val (.int (0 : Int32)), .unset, .unset, .unset] [(.int (0 : Int32)), (.ref bf), (.int (0 : Int32)), (.ref x2)])) rfl rfl (hb hby dM3_50)) ?_
  show G (T_8.setTop (mkF mI 51 #[.val (.ref t), .val (.int (3 : Int32)), .val (.ref x1), .val (.ref x2), .val (.int (0 : Int32)), .unset, .unset, .unset] [(.int w0), (.int (0 : Int32)), (.ref x2)]))
  obtain ⟨cl_10, Ar_10, q_10, S_10, M_10, Hs_10, Gs_10⟩ := V_x2
  have hin_10 : ¬ ((0 : Int32) < 0 ∨ cl_10.slots.size ≤ ((0 : Int32)).toNatClampNeg) := inb_of S_10 ⟨by decide, by decide⟩
  obtain ⟨T_10, h_10, X_10, e_10, W_10, st_10⟩ := stI X_8 hx hZ e_8 Ar_10 (j := (0 : Int32)) hin_10 (g := (mkF mI 51 #[.val (.ref t), .val (.int (3 : Int32)), .val (.ref x1), .val (.ref x2), .val (.int (0 : Int32)), .unset, .unset, .unset] [(.int w0), (.int (0 : Int32)), (.ref x2)])) rfl rfl (hb hby dM3_51)
  have V_x2 := Arv.set Ar_10 q_10 S_10 M_10 Hs_10 Gs_10 rfl W_10 0 rfl (Nat.le_of_ble_eq_true rfl)
  have V_x2 : Arv Z h_10 x2 k_x2 .int (3 : Int32) [(.int w0), (.int (0 : Int32)), (.int (0 : Int32))] (.int (0 : Int32)) := V_x2
  have Z0 := Nat.le_trans Z0 (Keep.of_wr W_10).1
  have Z1 := Nat.le_trans Z1 (Keep.of_wr W_10).1
  have K0 := K0.wr W_10 (Or.inr le_hh_x2)
  have E_t := E_t.wr W_10
  have F_size_t := F_size_t.other W_10 (Or.inl ne_t_x2)
  have F_otherGraphs_t := F_otherGraphs_t.other W_10 (Or.inl ne_t_x2)
  have F_firstGraphs_t := F_firstGraphs_t.other W_10 (Or.inl ne_t_x2)
  have V_bf := V_bf.other W_10 ne_bf_x2
  have E_s := E_s.wr W_10
  have F_map_s := F_map_s.other W_10 (Or.inl ne_s_x2)
  have E_m := E_m.wr W_10
  have F_size_m := F_size_m.other W_10 (Or.inl ne_m_x2)
  have F_keySet_m := F_keySet_m.other W_10 (Or.inl ne_m_x2)
  have F_head_m := F_head_m.other W_10 (Or.inl ne_m_x2)
  have F_modCount_m := F_modCount_m.other W_10 (Or.inl ne_m_x2)
  have V_x1 := V_x1.other W_10 ne_x1_x2
  have N_10 := Fr.snoc X_10 N_7 le_n0_x2
  refine hst st_10 ?_
  show G (T_10.setTop (mkF mI 52 #[.val (.ref t), .val (.int (3 : Int32)), .val (.ref x1), .val (.ref x2), .val (.int (0 : Int32)), .unset, .unset, .unset] []))
  refine o_iinc hst X_10.here hx (hb hby dM3_52) (pc' := 55) rfl rfl (Lt := #[.val (.ref t), .val (.int (3 : Int32)), .val (.ref x1), .val (.ref x2), .val (.int ((0 : Int32) + (1 : Int32))), .unset, .unset, .unset]) rfl ?_
  rw [show ((0 : Int32) + (1 : Int32)) = (1 : Int32) from by decide]
  show G (T_10.setTop (mkF mI 55 #[.val (.ref t), .val (.int (3 : Int32)), .val (.ref x1), .val (.ref x2), .val (.int (1 : Int32)), .unset, .unset, .unset] []))
  refine o_goto hst X_10.here hx (hb hby dM3_55) (by decide) (pc' := 26) (by decide) ?_
  refine o_iload hst X_10.here hx (hb hby dM3_26) (pc' := 28) rfl rfl ?_
  refine o_aloadN hst X_10.here hx (hb hby dM3_28) (pc' := 29) rfl rfl rfl ?_
  obtain ⟨T_11, X_11, e_11, st_11⟩ := getF X_10 hx hZ hown (host := "") (Or.inl (own_w129 hw)) Via.refl e_10 F_size_t (g := (mkF mI 29 #[.val (.ref t), .val (.int (3 : Int32)), .val (.ref x1), .val (.ref x2), .val (.int (1 : Int32)), .unset, .unset, .unset] [(.ref t), (.int (1 : Int32))])) rfl rfl (hb hby dM3_29)
  refine hst st_11 ?_
  show G (T_11.setTop (mkF mI 32 #[.val (.ref t), .val (.int (3 : Int32)), .val (.ref x1), .val (.ref x2), .val (.int (1 : Int32)), .unset, .unset, .unset] [(.int (3 : Int32)), (.int (1 : Int32))]))
  have hc32_1 : (1 : Int32) < (3 : Int32) := by decide
  refine hst (fun _ kt => XS.icmpNo X_11.here hx rfl (hb hby dM3_32) rfl (tlt hc32_1).2.1 kt) ?_
  show G (T_11.setTop (mkF mI 35 #[.val (.ref t), .val (.int (3 : Int32)), .val (.ref x1), .val (.ref x2), .val (.int (1 : Int32)), .unset, .unset, .unset] []))
  refine o_aloadN hst X_11.here hx (hb hby dM3_35) (pc' := 36) rfl rfl rfl ?_
  refine o_iload hst X_11.here hx (hb hby dM3_36) (pc' := 38) rfl rfl ?_
  refine o_iload hst X_11.here hx (hb hby dM3_38) (pc' := 40) rfl rfl ?_
  obtain ⟨cl_12, Ar_12, q_12, S_12, M_12, Hs_12, Gs_12⟩ := V_x1
  have hin_12 : ¬ ((1 : Int32) < 0 ∨ cl_12.slots.size ≤ ((1 : Int32)).toNatClampNeg) := inb_of S_12 ⟨by decide, by decide⟩
  obtain ⟨T_12, h_12, X_12, e_12, W_12, st_12⟩ := stI X_11 hx hZ e_11 Ar_12 (j := (1 : Int32)) hin_12 (g := (mkF mI 40 #[.val (.ref t), .val (.int (3 : Int32)), .val (.ref x1), .val (.ref x2), .val (.int (1 : Int32)), .unset, .unset, .unset] [(.int (1 : Int32)), (.int (1 : Int32)), (.ref x1)])) rfl rfl (hb hby dM3_40)
  have V_x1 := Arv.set Ar_12 q_12 S_12 M_12 Hs_12 Gs_12 rfl W_12 1 rfl (Nat.le_of_ble_eq_true rfl)
  have V_x1 : Arv Z h_12 x1 k_x1 .int (3 : Int32) [(.int (0 : Int32)), (.int (1 : Int32)), (.int (0 : Int32))] (.int (0 : Int32)) := V_x1
  have Z0 := Nat.le_trans Z0 (Keep.of_wr W_12).1
  have Z1 := Nat.le_trans Z1 (Keep.of_wr W_12).1
  have K0 := K0.wr W_12 (Or.inr le_hh_x1)
  have E_t := E_t.wr W_12
  have F_size_t := F_size_t.other W_12 (Or.inl ne_t_x1)
  have F_otherGraphs_t := F_otherGraphs_t.other W_12 (Or.inl ne_t_x1)
  have F_firstGraphs_t := F_firstGraphs_t.other W_12 (Or.inl ne_t_x1)
  have V_bf := V_bf.other W_12 ne_bf_x1
  have E_s := E_s.wr W_12
  have F_map_s := F_map_s.other W_12 (Or.inl ne_s_x1)
  have E_m := E_m.wr W_12
  have F_size_m := F_size_m.other W_12 (Or.inl ne_m_x1)
  have F_keySet_m := F_keySet_m.other W_12 (Or.inl ne_m_x1)
  have F_head_m := F_head_m.other W_12 (Or.inl ne_m_x1)
  have F_modCount_m := F_modCount_m.other W_12 (Or.inl ne_m_x1)
  have V_x2 := V_x2.other W_12 (Ne.symm ne_x1_x2)
  have N_12 := Fr.snoc X_12 N_10 le_n0_x1
  refine hst st_12 ?_
  show G (T_12.setTop (mkF mI 41 #[.val (.ref t), .val (.int (3 : Int32)), .val (.ref x1), .val (.ref x2), .val (.int (1 : Int32)), .unset, .unset, .unset] []))
  refine o_aloadN hst X_12.here hx (hb hby dM3_41) (pc' := 42) rfl rfl rfl ?_
  refine o_iload hst X_12.here hx (hb hby dM3_42) (pc' := 44) rfl rfl ?_
  refine o_aloadN hst X_12.here hx (hb hby dM3_44) (pc' := 45) rfl rfl rfl ?_
  obtain ⟨T_13, X_13, e_13, st_13⟩ := getF X_12 hx hZ hown (host := "") (Or.inl (own_w43 hw)) Via.refl e_12 F_firstGraphs_t (g := (mkF mI 45 #[.val (.ref t), .val (.int (3 : Int32)), .val (.ref x1), .val (.ref x2), .val (.int (1 : Int32)), .unset, .unset, .unset] [(.ref t), (.int (1 : Int32)), (.ref x2)])) rfl rfl (hb hby dM3_45)
  refine hst st_13 ?_
  show G (T_13.setTop (mkF mI 48 #[.val (.ref t), .val (.int (3 : Int32)), .val (.ref x1), .val (.ref x2), .val (.int (1 : Int32)), .unset, .unset, .unset] [(.ref bf), (.int (1 : Int32)), (.ref x2)]))
  refine o_iload hst X_13.here hx (hb hby dM3_48) (pc' := 50) rfl rfl ?_
  obtain ⟨cl_14, Ar_14, -, S_14, M_14, Hs_14, -⟩ := id V_bf
  have hin_14 : ¬ ((1 : Int32) < 0 ∨ cl_14.slots.size ≤ ((1 : Int32)).toNatClampNeg) := inb_of S_14 ⟨by decide, by decide⟩
  have hat_14 : cl_14.slots[((1 : Int32)).toNatClampNeg]? = some (.int w1) := Has.at Hs_14 hin_14 rfl
  refine hst (X_13.iaload hx (j := (1 : Int32)) (v := (.int w1)) (by rw [e_13]; exact Ar_14.1) (State.isArrayOf_alike hZ.alike Ar_14.2.1) Ar_14.2.2 hin_14 hat_14 (g := (mkF mI 50 #[.val (.ref t), .val (.int (3 : Int32)), .val (.ref x1), .val (.ref x2), .val (.int (1 : Int32)), .unset, .unset, .unset] [(.int (1 : Int32)), (.ref bf), (.int (1 : Int32)), (.ref x2)])) rfl rfl (hb hby dM3_50)) ?_
  show G (T_13.setTop (mkF mI 51 #[.val (.ref t), .val (.int (3 : Int32)), .val (.ref x1), .val (.ref x2), .val (.int (1 : Int32)), .unset, .unset, .unset] [(.int w1), (.int (1 : Int32)), (.ref x2)]))
  obtain ⟨cl_15, Ar_15, q_15, S_15, M_15, Hs_15, Gs_15⟩ := V_x2
  have hin_15 : ¬ ((1 : Int32) < 0 ∨ cl_15.slots.size ≤ ((1 : Int32)).toNatClampNeg) := inb_of S_15 ⟨by decide, by decide⟩
  obtain ⟨T_15, h_15, X_15, e_15, W_15, st_15⟩ := stI X_13 hx hZ e_13 Ar_15 (j := (1 : Int32)) hin_15 (g := (mkF mI 51 #[.val (.ref t), .val (.int (3 : Int32)), .val (.ref x1), .val (.ref x2), .val (.int (1 : Int32)), .unset, .unset, .unset] [(.int w1), (.int (1 : Int32)), (.ref x2)])) rfl rfl (hb hby dM3_51)
  have V_x2 := Arv.set Ar_15 q_15 S_15 M_15 Hs_15 Gs_15 rfl W_15 1 rfl (Nat.le_of_ble_eq_true rfl)
  have V_x2 : Arv Z h_15 x2 k_x2 .int (3 : Int32) [(.int w0), (.int w1), (.int (0 : Int32))] (.int (0 : Int32)) := V_x2
  have Z0 := Nat.le_trans Z0 (Keep.of_wr W_15).1
  have Z1 := Nat.le_trans Z1 (Keep.of_wr W_15).1
  have K0 := K0.wr W_15 (Or.inr le_hh_x2)
  have E_t := E_t.wr W_15
  have F_size_t := F_size_t.other W_15 (Or.inl ne_t_x2)
  have F_otherGraphs_t := F_otherGraphs_t.other W_15 (Or.inl ne_t_x2)
  have F_firstGraphs_t := F_firstGraphs_t.other W_15 (Or.inl ne_t_x2)
  have V_bf := V_bf.other W_15 ne_bf_x2
  have E_s := E_s.wr W_15
  have F_map_s := F_map_s.other W_15 (Or.inl ne_s_x2)
  have E_m := E_m.wr W_15
  have F_size_m := F_size_m.other W_15 (Or.inl ne_m_x2)
  have F_keySet_m := F_keySet_m.other W_15 (Or.inl ne_m_x2)
  have F_head_m := F_head_m.other W_15 (Or.inl ne_m_x2)
  have F_modCount_m := F_modCount_m.other W_15 (Or.inl ne_m_x2)
  have V_x1 := V_x1.other W_15 ne_x1_x2
  have N_15 := Fr.snoc X_15 N_12 le_n0_x2
  refine hst st_15 ?_
  show G (T_15.setTop (mkF mI 52 #[.val (.ref t), .val (.int (3 : Int32)), .val (.ref x1), .val (.ref x2), .val (.int (1 : Int32)), .unset, .unset, .unset] []))
  refine o_iinc hst X_15.here hx (hb hby dM3_52) (pc' := 55) rfl rfl (Lt := #[.val (.ref t), .val (.int (3 : Int32)), .val (.ref x1), .val (.ref x2), .val (.int ((1 : Int32) + (1 : Int32))), .unset, .unset, .unset]) rfl ?_
  rw [show ((1 : Int32) + (1 : Int32)) = (2 : Int32) from by decide]
  show G (T_15.setTop (mkF mI 55 #[.val (.ref t), .val (.int (3 : Int32)), .val (.ref x1), .val (.ref x2), .val (.int (2 : Int32)), .unset, .unset, .unset] []))
  refine o_goto hst X_15.here hx (hb hby dM3_55) (by decide) (pc' := 26) (by decide) ?_
  refine o_iload hst X_15.here hx (hb hby dM3_26) (pc' := 28) rfl rfl ?_
  refine o_aloadN hst X_15.here hx (hb hby dM3_28) (pc' := 29) rfl rfl rfl ?_
  obtain ⟨T_16, X_16, e_16, st_16⟩ := getF X_15 hx hZ hown (host := "") (Or.inl (own_w129 hw)) Via.refl e_15 F_size_t (g := (mkF mI 29 #[.val (.ref t), .val (.int (3 : Int32)), .val (.ref x1), .val (.ref x2), .val (.int (2 : Int32)), .unset, .unset, .unset] [(.ref t), (.int (2 : Int32))])) rfl rfl (hb hby dM3_29)
  refine hst st_16 ?_
  show G (T_16.setTop (mkF mI 32 #[.val (.ref t), .val (.int (3 : Int32)), .val (.ref x1), .val (.ref x2), .val (.int (2 : Int32)), .unset, .unset, .unset] [(.int (3 : Int32)), (.int (2 : Int32))]))
  have hc32_2 : (2 : Int32) < (3 : Int32) := by decide
  refine hst (fun _ kt => XS.icmpNo X_16.here hx rfl (hb hby dM3_32) rfl (tlt hc32_2).2.1 kt) ?_
  show G (T_16.setTop (mkF mI 35 #[.val (.ref t), .val (.int (3 : Int32)), .val (.ref x1), .val (.ref x2), .val (.int (2 : Int32)), .unset, .unset, .unset] []))
  refine o_aloadN hst X_16.here hx (hb hby dM3_35) (pc' := 36) rfl rfl rfl ?_
  refine o_iload hst X_16.here hx (hb hby dM3_36) (pc' := 38) rfl rfl ?_
  refine o_iload hst X_16.here hx (hb hby dM3_38) (pc' := 40) rfl rfl ?_
  obtain ⟨cl_17, Ar_17, q_17, S_17, M_17, Hs_17, Gs_17⟩ := V_x1
  have hin_17 : ¬ ((2 : Int32) < 0 ∨ cl_17.slots.size ≤ ((2 : Int32)).toNatClampNeg) := inb_of S_17 ⟨by decide, by decide⟩
  obtain ⟨T_17, h_17, X_17, e_17, W_17, st_17⟩ := stI X_16 hx hZ e_16 Ar_17 (j := (2 : Int32)) hin_17 (g := (mkF mI 40 #[.val (.ref t), .val (.int (3 : Int32)), .val (.ref x1), .val (.ref x2), .val (.int (2 : Int32)), .unset, .unset, .unset] [(.int (2 : Int32)), (.int (2 : Int32)), (.ref x1)])) rfl rfl (hb hby dM3_40)
  have V_x1 := Arv.set Ar_17 q_17 S_17 M_17 Hs_17 Gs_17 rfl W_17 2 rfl (Nat.le_of_ble_eq_true rfl)
  have V_x1 : Arv Z h_17 x1 k_x1 .int (3 : Int32) [(.int (0 : Int32)), (.int (1 : Int32)), (.int (2 : Int32))] (.int (0 : Int32)) := V_x1
  have Z0 := Nat.le_trans Z0 (Keep.of_wr W_17).1
  have Z1 := Nat.le_trans Z1 (Keep.of_wr W_17).1
  have K0 := K0.wr W_17 (Or.inr le_hh_x1)
  have E_t := E_t.wr W_17
  have F_size_t := F_size_t.other W_17 (Or.inl ne_t_x1)
  have F_otherGraphs_t := F_otherGraphs_t.other W_17 (Or.inl ne_t_x1)
  have F_firstGraphs_t := F_firstGraphs_t.other W_17 (Or.inl ne_t_x1)
  have V_bf := V_bf.other W_17 ne_bf_x1
  have E_s := E_s.wr W_17
  have F_map_s := F_map_s.other W_17 (Or.inl ne_s_x1)
  have E_m := E_m.wr W_17
  have F_size_m := F_size_m.other W_17 (Or.inl ne_m_x1)
  have F_keySet_m := F_keySet_m.other W_17 (Or.inl ne_m_x1)
  have F_head_m := F_head_m.other W_17 (Or.inl ne_m_x1)
  have F_modCount_m := F_modCount_m.other W_17 (Or.inl ne_m_x1)
  have V_x2 := V_x2.other W_17 (Ne.symm ne_x1_x2)
  have N_17 := Fr.snoc X_17 N_15 le_n0_x1
  refine hst st_17 ?_
  show G (T_17.setTop (mkF mI 41 #[.val (.ref t), .val (.int (3 : Int32)), .val (.ref x1), .val (.ref x2), .val (.int (2 : Int32)), .unset, .unset, .unset] []))
  refine o_aloadN hst X_17.here hx (hb hby dM3_41) (pc' := 42) rfl rfl rfl ?_
  refine o_iload hst X_17.here hx (hb hby dM3_42) (pc' := 44) rfl rfl ?_
  refine o_aloadN hst X_17.here hx (hb hby dM3_44) (pc' := 45) rfl rfl rfl ?_
  obtain ⟨T_18, X_18, e_18, st_18⟩ := getF X_17 hx hZ hown (host := "") (Or.inl (own_w43 hw)) Via.refl e_17 F_firstGraphs_t (g := (mkF mI 45 #[.val (.ref t), .val (.int (3 : Int32)), .val (.ref x1), .val (.ref x2), .val (.int (2 : Int32)), .unset, .unset, .unset] [(.ref t), (.int (2 : Int32)), (.ref x2)])) rfl rfl (hb hby dM3_45)
  refine hst st_18 ?_
  show G (T_18.setTop (mkF mI 48 #[.val (.ref t), .val (.int (3 : Int32)), .val (.ref x1), .val (.ref x2), .val (.int (2 : Int32)), .unset, .unset, .unset] [(.ref bf), (.int (2 : Int32)), (.ref x2)]))
  refine o_iload hst X_18.here hx (hb hby dM3_48) (pc' := 50) rfl rfl ?_
  obtain ⟨cl_19, Ar_19, -, S_19, M_19, Hs_19, -⟩ := id V_bf
  have hin_19 : ¬ ((2 : Int32) < 0 ∨ cl_19.slots.size ≤ ((2 : Int32)).toNatClampNeg) := inb_of S_19 ⟨by decide, by decide⟩
  have hat_19 : cl_19.slots[((2 : Int32)).toNatClampNeg]? = some (.int w2) := Has.at Hs_19 hin_19 rfl
  refine hst (X_18.iaload hx (j := (2 : Int32)) (v := (.int w2)) (by rw [e_18]; exact Ar_19.1) (State.isArrayOf_alike hZ.alike Ar_19.2.1) Ar_19.2.2 hin_19 hat_19 (g := (mkF mI 50 #[.val (.ref t), .val (.int (3 : Int32)), .val (.ref x1), .val (.ref x2), .val (.int (2 : Int32)), .unset, .unset, .unset] [(.int (2 : Int32)), (.ref bf), (.int (2 : Int32)), (.ref x2)])) rfl rfl (hb hby dM3_50)) ?_
  show G (T_18.setTop (mkF mI 51 #[.val (.ref t), .val (.int (3 : Int32)), .val (.ref x1), .val (.ref x2), .val (.int (2 : Int32)), .unset, .unset, .unset] [(.int w2), (.int (2 : Int32)), (.ref x2)]))
  obtain ⟨cl_20, Ar_20, q_20, S_20, M_20, Hs_20, Gs_20⟩ := V_x2
  have hin_20 : ¬ ((2 : Int32) < 0 ∨ cl_20.slots.size ≤ ((2 : Int32)).toNatClampNeg) := inb_of S_20 ⟨by decide, by decide⟩
  obtain ⟨T_20, h_20, X_20, e_20, W_20, st_20⟩ := stI X_18 hx hZ e_18 Ar_20 (j := (2 : Int32)) hin_20 (g := (mkF mI 51 #[.val (.ref t), .val (.int (3 : Int32)), .val (.ref x1), .val (.ref x2), .val (.int (2 : Int32)), .unset, .unset, .unset] [(.int w2), (.int (2 : Int32)), (.ref x2)])) rfl rfl (hb hby dM3_51)
  have V_x2 := Arv.set Ar_20 q_20 S_20 M_20 Hs_20 Gs_20 rfl W_20 2 rfl (Nat.le_of_ble_eq_true rfl)
  have V_x2 : Arv Z h_20 x2 k_x2 .int (3 : Int32) [(.int w0), (.int w1), (.int w2)] (.int (0 : Int32)) := V_x2
  have Z0 := Nat.le_trans Z0 (Keep.of_wr W_20).1
  have Z1 := Nat.le_trans Z1 (Keep.of_wr W_20).1
  have K0 := K0.wr W_20 (Or.inr le_hh_x2)
  have E_t := E_t.wr W_20
  have F_size_t := F_size_t.other W_20 (Or.inl ne_t_x2)
  have F_otherGraphs_t := F_otherGraphs_t.other W_20 (Or.inl ne_t_x2)
  have F_firstGraphs_t := F_firstGraphs_t.other W_20 (Or.inl ne_t_x2)
  have V_bf := V_bf.other W_20 ne_bf_x2
  have E_s := E_s.wr W_20
  have F_map_s := F_map_s.other W_20 (Or.inl ne_s_x2)
  have E_m := E_m.wr W_20
  have F_size_m := F_size_m.other W_20 (Or.inl ne_m_x2)
  have F_keySet_m := F_keySet_m.other W_20 (Or.inl ne_m_x2)
  have F_head_m := F_head_m.other W_20 (Or.inl ne_m_x2)
  have F_modCount_m := F_modCount_m.other W_20 (Or.inl ne_m_x2)
  have V_x1 := V_x1.other W_20 ne_x1_x2
  have N_20 := Fr.snoc X_20 N_17 le_n0_x2
  refine hst st_20 ?_
  show G (T_20.setTop (mkF mI 52 #[.val (.ref t), .val (.int (3 : Int32)), .val (.ref x1), .val (.ref x2), .val (.int (2 : Int32)), .unset, .unset, .unset] []))
  refine o_iinc hst X_20.here hx (hb hby dM3_52) (pc' := 55) rfl rfl (Lt := #[.val (.ref t), .val (.int (3 : Int32)), .val (.ref x1), .val (.ref x2), .val (.int ((2 : Int32) + (1 : Int32))), .unset, .unset, .unset]) rfl ?_
  rw [show ((2 : Int32) + (1 : Int32)) = (3 : Int32) from by decide]
  show G (T_20.setTop (mkF mI 55 #[.val (.ref t), .val (.int (3 : Int32)), .val (.ref x1), .val (.ref x2), .val (.int (3 : Int32)), .unset, .unset, .unset] []))
  refine o_goto hst X_20.here hx (hb hby dM3_55) (by decide) (pc' := 26) (by decide) ?_
  refine o_iload hst X_20.here hx (hb hby dM3_26) (pc' := 28) rfl rfl ?_
  refine o_aloadN hst X_20.here hx (hb hby dM3_28) (pc' := 29) rfl rfl rfl ?_
  obtain ⟨T_21, X_21, e_21, st_21⟩ := getF X_20 hx hZ hown (host := "") (Or.inl (own_w129 hw)) Via.refl e_20 F_size_t (g := (mkF mI 29 #[.val (.ref t), .val (.int (3 : Int32)), .val (.ref x1), .val (.ref x2), .val (.int (3 : Int32)), .unset, .unset, .unset] [(.ref t), (.int (3 : Int32))])) rfl rfl (hb hby dM3_29)
  refine hst st_21 ?_
  show G (T_21.setTop (mkF mI 32 #[.val (.ref t), .val (.int (3 : Int32)), .val (.ref x1), .val (.ref x2), .val (.int (3 : Int32)), .unset, .unset, .unset] [(.int (3 : Int32)), (.int (3 : Int32))]))
  have hc32 : ¬ ((3 : Int32) < (3 : Int32)) := by decide
  refine hst (fun _ kt => XS.icmpYes X_21.here hx rfl (pc0 := 32) (pc' := 58) rfl (hb hby dM3_32) rfl (flt hc32).2.1 (by decide) (by decide) kt) ?_
  show G (T_21.setTop (mkF mI 58 #[.val (.ref t), .val (.int (3 : Int32)), .val (.ref x1), .val (.ref x2), .val (.int (3 : Int32)), .unset, .unset, .unset] []))
  refine o_aloadN hst X_21.here hx (hb hby dM3_58) (pc' := 59) rfl rfl rfl ?_
  obtain ⟨T_22, X_22, e_22, st_22⟩ := getF X_21 hx hZ hown (host := "") (Or.inl (own_w129 hw)) Via.refl e_21 F_size_t (g := (mkF mI 59 #[.val (.ref t), .val (.int (3 : Int32)), .val (.ref x1), .val (.ref x2), .val (.int (3 : Int32)), .unset, .unset, .unset] [(.ref t)])) rfl rfl (hb hby dM3_59)
  refine hst st_22 ?_
  show G (T_22.setTop (mkF mI 62 #[.val (.ref t), .val (.int (3 : Int32)), .val (.ref x1), .val (.ref x2), .val (.int (3 : Int32)), .unset, .unset, .unset] [(.int (3 : Int32))]))
  refine o_istore hst X_22.here hx (hb hby dM3_62) (pc' := 64) rfl (Lt := #[.val (.ref t), .val (.int (3 : Int32)), .val (.ref x1), .val (.ref x2), .val (.int (3 : Int32)), .unset, .unset, .unset]) rfl ?_
  refine o_aloadN hst X_22.here hx (hb hby dM3_64) (pc' := 65) rfl rfl rfl ?_
  obtain ⟨T_23, X_23, e_23, st_23⟩ := getF X_22 hx hZ hown (host := "") (Or.inl (own_w114 hw)) Via.refl e_22 F_otherGraphs_t (g := (mkF mI 65 #[.val (.ref t), .val (.int (3 : Int32)), .val (.ref x1), .val (.ref x2), .val (.int (3 : Int32)), .unset, .unset, .unset] [(.ref t)])) rfl rfl (hb hby dM3_65)
  refine hst st_23 ?_
  show G (T_23.setTop (mkF mI 68 #[.val (.ref t), .val (.int (3 : Int32)), .val (.ref x1), .val (.ref x2), .val (.int (3 : Int32)), .unset, .unset, .unset] [(.ref s)]))
  obtain ⟨cq_24, kq_24, q_24a, q_24b, q_24c⟩ := isOf hZ e_23 E_s
  obtain ⟨_, _, ⟨T_24, L_24, k_24, n_24⟩, -, X_24, ⟨Lc_24, hQ_24, l_24, y_24, z_24⟩, st_24⟩ := X_23.interfaceBack hx (xi := (⟨"java/util/Set", "iterator", "()Ljava/util/Iterator;"⟩ : MethodName)) (y := (⟨"java/util/HashSet", "iterator", "()Ljava/util/Iterator;"⟩ : MethodName)) hown (mvT hZ (own_w216 hw)) (mvT hZ (own_w217 hw)) (mvT hZ (own_w218 hw)) (mvT hZ (own_w219 hw)) (mvT hZ (own_w220 hw)) (mvT hZ (own_w221 hw)) (mvT hZ (own_w222 hw)) (mvT hZ (own_w207 hw)) (by decide) (backOf (W := 0) (rmsi lL Z a0 hw [] s m h_20 n0 Z0 F_map_s E_m F_size_m F_keySet_m F_head_m F_modCount_m le_n0_m) hZ (own_w223 hw) (own_w56 hw) (by decide) (by decide)) q_24a q_24b q_24c (g := (mkF mI 68 #[.val (.ref t), .val (.int (3 : Int32)), .val (.ref x1), .val (.ref x2), .val (.int (3 : Int32)), .unset, .unset, .unset] [(.ref s)])) rfl (by rw [hml]; rfl) (Steps.refl _) (argsL := []) (rest := []) (lenOf pd_11 rfl) rfl (by show 2 * 0 + _ ≤ _; exact Nat.le_of_eq rfl) (hb hby dM3_68) (fun _ _ => ⟨rfl, e_23, (by decide : 2 + 2 ≤ _), (by decide : 6 + 7 ≤ _)⟩)
  dsimp only [Pt.U, Pt.locs, Pt.cells, Pt.slots] at X_24 l_24 y_24 z_24 st_24 hQ_24
  subst l_24 y_24 z_24
  obtain ⟨it, ks, rfl, N_24q, K_24, le_ks, E_it, F_next_it, GF_size_m, GF_keySet_m, GF_head_m, GF_modCount_m, GE_ks, GF_this_0_ks, GF_reversed_ks⟩ := hQ_24
  have le_hh_ks := Nat.le_trans Z1 le_ks
  have ne_t_m : t ≠ m := ne_exa E_t E_m (by decide)
  have ne_bf_m : bf ≠ m := Ne.symm (own_ne_arv E_m (own_w72 hw) V_bf)
  have ne_s_m : s ≠ m := ne_exa E_s E_m (by decide)
  have Z0 := Nat.le_trans Z0 K_24.1
  have Z1 := Nat.le_trans Z1 K_24.1
  have K0 := K0.trans K_24 (allS (Or.inl (List.mem_of_getElem? (i := 0) rfl)) all0)
  have E_t := E_t.keep K_24
  have F_size_t := F_size_t.keep K_24 (ninS ne_t_m nin0)
  have F_otherGraphs_t := F_otherGraphs_t.keep K_24 (ninS ne_t_m nin0)
  have F_firstGraphs_t := F_firstGraphs_t.keep K_24 (ninS ne_t_m nin0)
  have V_bf := V_bf.keep K_24 (ninS ne_bf_m nin0)
  have E_s := E_s.keep K_24
  have F_map_s := F_map_s.keep K_24 (ninS ne_s_m nin0)
  have E_m := E_m.keep K_24
  have F_size_m := GF_size_m
  have F_keySet_m := GF_keySet_m
  have F_head_m := GF_head_m
  have F_modCount_m := GF_modCount_m
  have E_ks := GE_ks
  have F_this_0_ks := GF_this_0_ks
  have F_reversed_ks := GF_reversed_ks
  have N_24 := Fr.app N_20 N_24q
  refine hst (fun _ kt => st_24.trans kt) ?_
  show G (T_24.setTop (mkF mI 73 #[.val (.ref t), .val (.int (3 : Int32)), .val (.ref x1), .val (.ref x2), .val (.int (3 : Int32)), .unset, .unset, .unset] [(.ref it)]))
  refine o_astore hst X_24.here hx (hb hby dM3_73) (pc' := 75) rfl (Lt := #[.val (.ref t), .val (.int (3 : Int32)), .val (.ref x1), .val (.ref x2), .val (.int (3 : Int32)), .val (.ref it), .unset, .unset]) rfl rfl ?_
  refine o_aload hst X_24.here hx (hb hby dM3_75) (pc' := 77) rfl rfl rfl ?_
  obtain ⟨cq_25, kq_25, q_25a, q_25b, q_25c⟩ := isOf hZ rfl E_it
  obtain ⟨_, _, ⟨T_25, L_25, k_25, n_25⟩, -, X_25, ⟨Lc_25, hQ_25, l_25, y_25, z_25⟩, st_25⟩ := X_24.interfaceBack hx (xi := (⟨"java/util/Iterator", "hasNext", "()Z"⟩ : MethodName)) (y := (⟨"java/util/LinkedHashMap$LinkedHashIterator", "hasNext", "()Z"⟩ : MethodName)) hown (mvT hZ (own_w288 hw)) (mvT hZ (own_w289 hw)) (mvT hZ (own_w290 hw)) (mvT hZ (own_w291 hw)) (mvT hZ (own_w292 hw)) (mvT hZ (own_w293 hw)) (mvT hZ (own_w294 hw)) (mvT hZ (own_w295 hw)) (by decide) (backOf (W := 0) (rmhn lL Z a0 hw [] it  T_24.heap n0 Z0 F_next_it) hZ (own_w296 hw) (own_w270 hw) (by decide) (by decide)) q_25a q_25b q_25c (g := (mkF mI 77 #[.val (.ref t), .val (.int (3 : Int32)), .val (.ref x1), .val (.ref x2), .val (.int (3 : Int32)), .val (.ref it), .unset, .unset] [(.ref it)])) rfl (by rw [hml]; rfl) (Steps.refl _) (argsL := []) (rest := []) (lenOf pd_12 rfl) rfl (by show 2 * 0 + _ ≤ _; exact Nat.le_of_eq rfl) (hb hby dM3_77) (fun _ _ => ⟨rfl, rfl, (by decide : 4 + 0 ≤ _), (by decide : 13 + 0 ≤ _)⟩)
  dsimp only [Pt.U, Pt.locs, Pt.cells, Pt.slots] at X_25 l_25 y_25 z_25 st_25 hQ_25
  subst l_25 y_25 z_25
  obtain ⟨rfl, N_25q, eh_25⟩ := hQ_25
  have N_25 := Fr.app N_24 N_25q
  refine hst (fun _ kt => st_25.trans kt) ?_
  show G (T_25.setTop (mkF mI 82 #[.val (.ref t), .val (.int (3 : Int32)), .val (.ref x1), .val (.ref x2), .val (.int (3 : Int32)), .val (.ref it), .unset, .unset] [(.int (0 : Int32))]))
  have hc82 : (0 : Int32) = (0 : Int32) := rfl
  refine hst (fun _ kt => XS.ifYes X_25.here hx rfl (pc0 := 82) (pc' := 123) rfl (hb hby dM3_82) rfl ((if0 _ _).trans (teq hc82).1) (by decide) (by decide) kt) ?_
  show G (T_25.setTop (mkF mI 123 #[.val (.ref t), .val (.int (3 : Int32)), .val (.ref x1), .val (.ref x2), .val (.int (3 : Int32)), .val (.ref it), .unset, .unset] []))
  obtain ⟨T_26, h_26, X_26, e_26, E_26, A_26, D_26, -, st_26⟩ := newO X_25 hx hZ hown (own_w297 hw) (own_w298 hw) (own_w299 hw) eh_25 (g := (mkF mI 123 #[.val (.ref t), .val (.int (3 : Int32)), .val (.ref x1), .val (.ref x2), .val (.int (3 : Int32)), .val (.ref it), .unset, .unset] [])) rfl (hb hby dM3_123) (by decide) (by decide)
  obtain ⟨mb, g_mb⟩ : ∃ z, z = T_24.heap.size := ⟨_, rfl⟩
  rw [← g_mb] at A_26 D_26 st_26
  have ne_t_mb : t ≠ mb := Nat.ne_of_lt (Nat.lt_of_lt_of_le E_t.lt (Nat.le_of_eq g_mb.symm))
  have ne_s_mb : s ≠ mb := Nat.ne_of_lt (Nat.lt_of_lt_of_le E_s.lt (Nat.le_of_eq g_mb.symm))
  have ne_m_mb : m ≠ mb := Nat.ne_of_lt (Nat.lt_of_lt_of_le E_m.lt (Nat.le_of_eq g_mb.symm))
  have ne_bf_mb : bf ≠ mb := Nat.ne_of_lt (Nat.lt_of_lt_of_le V_bf.lt (Nat.le_of_eq g_mb.symm))
  have ne_ks_mb : ks ≠ mb := Nat.ne_of_lt (Nat.lt_of_lt_of_le E_ks.lt (Nat.le_of_eq g_mb.symm))
  have ne_it_mb : it ≠ mb := Nat.ne_of_lt (Nat.lt_of_lt_of_le E_it.lt (Nat.le_of_eq g_mb.symm))
  have le_n0_mb : n0 ≤ mb := Nat.le_trans Z0 (Nat.le_of_eq g_mb.symm)
  have le_hh_mb : h0.size ≤ mb := Nat.le_trans Z1 (Nat.le_of_eq g_mb.symm)
  have Z0 := Nat.le_trans Z0 E_26.1
  have Z1 := Nat.le_trans Z1 E_26.1
  have K0 := K0.ext E_26
  have E_t := E_t.ext E_26
  have F_size_t := F_size_t.ext E_26
  have F_otherGraphs_t := F_otherGraphs_t.ext E_26
  have F_firstGraphs_t := F_firstGraphs_t.ext E_26
  have V_bf := V_bf.ext E_26
  have E_s := E_s.ext E_26
  have F_map_s := F_map_s.ext E_26
  have E_m := E_m.ext E_26
  have F_size_m := F_size_m.ext E_26
  have F_keySet_m := F_keySet_m.ext E_26
  have F_head_m := F_head_m.ext E_26
  have F_modCount_m := F_modCount_m.ext E_26
  have E_ks := E_ks.ext E_26
  have F_this_0_ks := F_this_0_ks.ext E_26
  have F_reversed_ks := F_reversed_ks.ext E_26
  have E_it := E_it.ext E_26
  have F_next_it := F_next_it.ext E_26
  have E_mb : Exa Z h_26 mb own_MB := A_26
  have F_triples_mb : Fld Z h_26 mb own_MB "triples" "[I" .null := D_26 (Or.inr (own_w310 hw)) (ty := (.array .int)) (by decide)
  have F_graphs_mb : Fld Z h_26 mb own_MB "graphs" "[I" .null := D_26 (Or.inr (own_w312 hw)) (ty := (.array .int)) (by decide)
  refine hst st_26 ?_
  show G (T_26.setTop (mkF mI 126 #[.val (.ref t), .val (.int (3 : Int32)), .val (.ref x1), .val (.ref x2), .val (.int (3 : Int32)), .val (.ref it), .unset, .unset] [(.ref mb)]))
  refine o_dup hst X_26.here hx (hb hby dM3_126) (pc' := 127) rfl rfl ?_
  refine o_aloadN hst X_26.here hx (hb hby dM3_127) (pc' := 128) rfl rfl rfl ?_
  refine o_aloadN hst X_26.here hx (hb hby dM3_128) (pc' := 129) rfl rfl rfl ?_
  obtain ⟨_, _, ⟨T_27, L_27, k_27, n_27⟩, -, X_27, ⟨Lc_27, hQ_27, l_27, y_27, z_27⟩, st_27⟩ := X_26.specialBack hx (y := (⟨own_MB, "<init>", "([I[I)V"⟩ : MethodName)) rfl hown (mvT hZ (own_w300 hw)) (mvT hZ (own_w301 hw)) (mvT hZ (own_w302 hw)) (by decide) (backOf (W := 1) (rmmb lL Z a0 hw [] mb x1 x2  h_26 n0 Z0 F_triples_mb F_graphs_mb E_mb le_n0_mb) hZ (own_w302 hw) (own_w299 hw) (by decide) (by decide)) (g := (mkF mI 129 #[.val (.ref t), .val (.int (3 : Int32)), .val (.ref x1), .val (.ref x2), .val (.int (3 : Int32)), .val (.ref it), .unset, .unset] [(.ref x2), (.ref x1), (.ref mb), (.ref mb)])) rfl (by rw [hml]; rfl) (Steps.refl _) (a := mb) (argsL := [(.ref x1), (.ref x2)]) (rest := [(.ref mb)]) (lenOf pd_13 rfl) rfl (by show 2 * 0 + _ ≤ _; exact Nat.le_of_eq rfl) (hb hby dM3_129) (fun _ _ => ⟨rfl, e_26, (by decide : 5 + 0 ≤ _), (by decide : 15 + 0 ≤ _)⟩)
  dsimp only [Pt.U, Pt.locs, Pt.cells, Pt.slots] at X_27 l_27 y_27 z_27 st_27 hQ_27
  subst l_27 y_27 z_27
  obtain ⟨rfl, N_27q, K_27⟩ := hQ_27
  have Z0 := Nat.le_trans Z0 K_27.1
  have Z1 := Nat.le_trans Z1 K_27.1
  have K0 := K0.trans K_27 (allS (Or.inr le_hh_mb) all0)
  have E_t := E_t.keep K_27
  have F_size_t := F_size_t.keep K_27 (ninS ne_t_mb nin0)
  have F_otherGraphs_t := F_otherGraphs_t.keep K_27 (ninS ne_t_mb nin0)
  have F_firstGraphs_t := F_firstGraphs_t.keep K_27 (ninS ne_t_mb nin0)
  have V_bf := V_bf.keep K_27 (ninS ne_bf_mb nin0)
  have E_s := E_s.keep K_27
  have F_map_s := F_map_s.keep K_27 (ninS ne_s_mb nin0)
  have E_m := E_m.keep K_27
  have F_size_m := F_size_m.keep K_27 (ninS ne_m_mb nin0)
  have F_keySet_m := F_keySet_m.keep K_27 (ninS ne_m_mb nin0)
  have F_head_m := F_head_m.keep K_27 (ninS ne_m_mb nin0)
  have F_modCount_m := F_modCount_m.keep K_27 (ninS ne_m_mb nin0)
  have E_ks := E_ks.keep K_27
  have F_this_0_ks := F_this_0_ks.keep K_27 (ninS ne_ks_mb nin0)
  have F_reversed_ks := F_reversed_ks.keep K_27 (ninS ne_ks_mb nin0)
  have E_it := E_it.keep K_27
  have F_next_it := F_next_it.keep K_27 (ninS ne_it_mb nin0)
  have E_mb := E_mb.keep K_27
  have N_27 := Fr.app N_25 N_27q
  refine hst (fun _ kt => st_27.trans kt) ?_
  show G (T_27.setTop (mkF mI 132 #[.val (.ref t), .val (.int (3 : Int32)), .val (.ref x1), .val (.ref x2), .val (.int (3 : Int32)), .val (.ref it), .unset, .unset] [(.ref mb)]))
  exact hend (own_goRet X_27 hx Bd.returns rfl (Or.inr (Or.inr (Or.inr (Or.inr ⟨rfl, rfl, rfl⟩)))) (hb hby dM3_132) Bd.notSynchronized (by exact ⟨mb, ks, rfl, N_27, K0, le_hh_ks, F_size_m, F_keySet_m, F_head_m, F_modCount_m, E_ks, F_this_0_ks, F_reversed_ks⟩) (by decide) (by decide))
theorem dce_0 : decode jdk_43_method_3_code 0 = .ok (.iload_n 0, 1) := by decide +kernel
theorem dce_1 : decode jdk_43_method_3_code 1 = .ok (.sipush 255, 3) := by decide +kernel
theorem dce_4 : decode jdk_43_method_3_code 4 = .ok (.if_icmp .gt 7, 3) := by decide +kernel
theorem dce_7 : decode jdk_43_method_3_code 7 = .ok (.iconst 1, 1) := by decide +kernel
theorem dce_8 : decode jdk_43_method_3_code 8 = .ok (.goto 4, 3) := by decide +kernel
theorem dce_12 : decode jdk_43_method_3_code 12 = .ok (.ireturn, 1) := by decide +kernel
theorem ef_ce (mI : MethodId) (y : Int32) : entryFrame mI #[(.int y)] 1 = mkF mI 0 #[.val (.int y)] [] := by first | (simp [entryFrame, mkF, argsToLocals, Value.category]; done) | rfl
theorem pn_ce : plainName "java/lang/StringLatin1" = true := by first | decide +kernel | (simp [plainName, overriddenIn]; done)
set_option maxRecDepth 65536 in
set_option maxHeartbeats 40000000 in
theorem rmce (lL : Launch) (Z : State) (a0 : Array Value) (hw : ∀ d ∈ tables_1, d.before a0 Z = true) (ws : List Jvm.Cond) (y : Int32) (h0 : Heap) (n0 : Nat) (Z0 : n0 ≤ h0.size) (hy : ¬ (255 : Int32) < y) :
    MetFree lL (⟨"java/lang/StringLatin1", "canEncode", "(C)Z"⟩ : MethodName) (head1 (Jvm.Cond.code (⟨"java/lang/StringLatin1", "canEncode", "(C)Z"⟩ : MethodName) jdk_43_method_3_code 1 (some .boolean) :: ws) ({ frames := 0, cells := 0, slots := 0, locals := 0 } : Room)) (fun a_ U_ => a_ = #[(.int y)] ∧ Z.Warmed39 U_.vm ∧ U_.heap = h0) (fun _ _ _ _ _ => True) (fun _ U_ o_ W_ => ∃ v_ L_, o_ = .returned v_ ∧ own_QI (1 : Int32) h0 n0 v_ W_.heap L_ ∧ FrameEnd U_ o_ W_ L_ ({ frames := 0, cells := 0, slots := 0, locals := 0 } : Room).cells ({ frames := 0, cells := 0, slots := 0, locals := 0 } : Room).slots) := by
  refine MetFree.of_bodySF (plainFor_of_name pn_ce) hisR ?_
  intro pP eE sS mI args below meth cC s₁ Bd hml0 hP hK
  obtain ⟨rfl, hZ, hh⟩ := hP
  have hx := Bd.exec
  have hby := Bd.bytes
  have hml : cC.maxLocals = 1 := hml0
  have hown : sS.vm.findClass "java/lang/StringLatin1" = some mI.cls := by have z := findClass_of_methodNamed Bd.named; exact z
  have hnm := (name_of_methodNamed Bd.named Bd.method).1
  have X0 : Stand pP lL eE ({ frames := 0, cells := 0, slots := 0, locals := 0 } : Room) sS mI #[(.int y)] below meth cC s₁ [] 0 0 := Stand.of_body Bd
  have e0 : s₁.heap = h0 := by rw [← hh, Bd.state]; rfl
  have N0 := Fr.nil n0
  obtain ⟨G, hG, hst, hend⟩ := own_abs pP eE below sS (own_QI (1 : Int32) h0 n0) ({ frames := 0, cells := 0, slots := 0, locals := 0 } : Room).cells ({ frames := 0, cells := 0, slots := 0, locals := 0 } : Room).slots
  refine hG (S := s₁.setTop (entryFrame mI #[(.int y)] 1)) (hst (fun t_ kt_ => castTop (ef_ce mI y) kt_) ?_)
  show G (s₁.setTop (mkF mI 0 #[.val (.int y)] []))
  refine o_iloadN hst X0.here hx (hb hby dce_0) (pc' := 1) rfl rfl ?_
  refine o_sipush hst X0.here hx (hb hby dce_1) (pc' := 4) rfl (z := (255 : Int32)) rfl ?_
  have hc4 : ¬ ((255 : Int32) < y) := hy
  refine hst (fun _ kt => XS.icmpNo X0.here hx rfl (hb hby dce_4) rfl (flt hc4).2.2.1 kt) ?_
  show G (s₁.setTop (mkF mI 7 #[.val (.int y)] []))
  refine o_iconst hst X0.here hx (hb hby dce_7) (pc' := 8) rfl (z := (1 : Int32)) rfl ?_
  refine o_goto hst X0.here hx (hb hby dce_8) (by decide) (pc' := 12) (by decide) ?_
  exact hend (own_goRet X0 hx Bd.returns rfl (Or.inl ⟨rfl, by simp, _, rfl⟩) (hb hby dce_12) Bd.notSynchronized (by rw [e0]; exact ⟨rfl, N0, rfl⟩) (by decide) (by decide))
def own_Qtb (Z : State) (y : Int32) (h0 : Heap) (n0 : Nat) (v : Option Value) (h : Heap) (L : List Loc) : Prop := ∃ (b : Addr) (k : ClassId), v = some (.ref b) ∧ Fr n0 L ∧ Keep h0 h [] ∧ h0.size ≤ b ∧ Arv Z h b k .byte (1 : Int32) [(.int (nar .byte (y.toInt8.toInt32)))] (.int (0 : Int32))
theorem dtb_0 : decode jdk_43_method_46_code 0 = .ok (.iconst 1, 1) := by decide +kernel
theorem dtb_1 : decode jdk_43_method_46_code 1 = .ok (.newarray .byte, 2) := by decide +kernel
theorem dtb_3 : decode jdk_43_method_46_code 3 = .ok (.dup, 1) := by decide +kernel
theorem dtb_4 : decode jdk_43_method_46_code 4 = .ok (.iconst 0, 1) := by decide +kernel
theorem dtb_5 : decode jdk_43_method_46_code 5 = .ok (.iload_n 0, 1) := by decide +kernel
theorem dtb_6 : decode jdk_43_method_46_code 6 = .ok (.i2b, 1) := by decide +kernel
theorem dtb_7 : decode jdk_43_method_46_code 7 = .ok (.bastore, 1) := by decide +kernel
theorem dtb_8 : decode jdk_43_method_46_code 8 = .ok (.areturn, 1) := by decide +kernel
theorem ef_tb (mI : MethodId) (y : Int32) : entryFrame mI #[(.int y)] 1 = mkF mI 0 #[.val (.int y)] [] := by first | (simp [entryFrame, mkF, argsToLocals, Value.category]; done) | rfl
theorem pn_tb : plainName "java/lang/StringLatin1" = true := by first | decide +kernel | (simp [plainName, overriddenIn]; done)
set_option maxRecDepth 65536 in
set_option maxHeartbeats 40000000 in
theorem rmtb (lL : Launch) (Z : State) (a0 : Array Value) (hw : ∀ d ∈ tables_1, d.before a0 Z = true) (ws : List Jvm.Cond) (y : Int32) (h0 : Heap) (n0 : Nat) (Z0 : n0 ≤ h0.size) :
    MetFree lL (⟨"java/lang/StringLatin1", "toBytes", "(C)[B"⟩ : MethodName) (head1 (Jvm.Cond.code (⟨"java/lang/StringLatin1", "toBytes", "(C)[B"⟩ : MethodName) jdk_43_method_46_code 1 (some (.array .byte)) :: ws) ({ frames := 0, cells := 1, slots := 1, locals := 0 } : Room)) (fun a_ U_ => a_ = #[(.int y)] ∧ Z.Warmed39 U_.vm ∧ U_.heap = h0) (fun _ _ _ _ _ => True) (fun _ U_ o_ W_ => ∃ v_ L_, o_ = .returned v_ ∧ own_Qtb Z y h0 n0 v_ W_.heap L_ ∧ FrameEnd U_ o_ W_ L_ ({ frames := 0, cells := 1, slots := 1, locals := 0 } : Room).cells ({ frames := 0, cells := 1, slots := 1, locals := 0 } : Room).slots) := by
  refine MetFree.of_bodySF (plainFor_of_name pn_tb) hisR ?_
  intro pP eE sS mI args below meth cC s₁ Bd hml0 hP hK
  obtain ⟨rfl, hZ, hh⟩ := hP
  have hx := Bd.exec
  have hby := Bd.bytes
  have hml : cC.maxLocals = 1 := hml0
  have hown : sS.vm.findClass "java/lang/StringLatin1" = some mI.cls := by have z := findClass_of_methodNamed Bd.named; exact z
  have hnm := (name_of_methodNamed Bd.named Bd.method).1
  have X0 : Stand pP lL eE ({ frames := 0, cells := 1, slots := 1, locals := 0 } : Room) sS mI #[(.int y)] below meth cC s₁ [] 0 0 := Stand.of_body Bd
  have e0 : s₁.heap = h0 := by rw [← hh, Bd.state]; rfl
  have N0 := Fr.nil n0
  obtain ⟨G, hG, hst, hend⟩ := own_abs pP eE below sS (own_Qtb Z y h0 n0) ({ frames := 0, cells := 1, slots := 1, locals := 0 } : Room).cells ({ frames := 0, cells := 1, slots := 1, locals := 0 } : Room).slots
  refine hG (S := s₁.setTop (entryFrame mI #[(.int y)] 1)) (hst (fun t_ kt_ => castTop (ef_tb mI y) kt_) ?_)
  have Z1 := Nat.le_refl h0.size
  have K0 := Keep.refl h0 []
  show G (s₁.setTop (mkF mI 0 #[.val (.int y)] []))
  refine o_iconst hst X0.here hx (hb hby dtb_0) (pc' := 1) rfl (z := (1 : Int32)) rfl ?_
  obtain ⟨T_1, h_1, k_b, X_1, e_1, E_1, A_1, st_1⟩ := newP (aty := .byte) X0 hx hZ (own_w16 hw) e0 (g := (mkF mI 1 #[.val (.int y)] [(.int (1 : Int32))])) rfl (hb hby dtb_1) rfl (by decide) (cap := 1) (by decide) (by decide) (by decide) (by decide)
  obtain ⟨b, g_b⟩ : ∃ z, z = h0.size := ⟨_, rfl⟩
  rw [← g_b] at A_1 st_1
  have le_n0_b : n0 ≤ b := Nat.le_trans Z0 (Nat.le_of_eq g_b.symm)
  have le_hh_b : h0.size ≤ b := Nat.le_trans Z1 (Nat.le_of_eq g_b.symm)
  have Z0 := Nat.le_trans Z0 E_1.1
  have Z1 := Nat.le_trans Z1 E_1.1
  have K0 := K0.ext E_1
  have V_b : Arv Z h_1 b k_b .byte (1 : Int32) [(.int (0 : Int32))] (.int (0 : Int32)) := (Arv.new A_1 (by decide)).pad (pad_rep [] (.int (0 : Int32)) 1)
  refine hst st_1 ?_
  show G (T_1.setTop (mkF mI 3 #[.val (.int y)] [(.ref b)]))
  refine o_dup hst X_1.here hx (hb hby dtb_3) (pc' := 4) rfl rfl ?_
  refine o_iconst hst X_1.here hx (hb hby dtb_4) (pc' := 5) rfl (z := (0 : Int32)) rfl ?_
  refine o_iloadN hst X_1.here hx (hb hby dtb_5) (pc' := 6) rfl rfl ?_
  refine o_i2b hst X_1.here hx (hb hby dtb_6) (pc' := 7) rfl ?_
  obtain ⟨cl_2, Ar_2, q_2, S_2, M_2, Hs_2, Gs_2⟩ := V_b
  have hin_2 : ¬ ((0 : Int32) < 0 ∨ cl_2.slots.size ≤ ((0 : Int32)).toNatClampNeg) := inb_of S_2 ⟨by decide, by decide⟩
  obtain ⟨T_2, h_2, X_2, e_2, W_2, st_2⟩ := stB X_1 hx hZ e_1 Ar_2 (j := (0 : Int32)) hin_2 (g := (mkF mI 7 #[.val (.int y)] [(.int (y.toInt8.toInt32)), (.int (0 : Int32)), (.ref b), (.ref b)])) rfl rfl (hb hby dtb_7)
  have V_b := Arv.set Ar_2 q_2 S_2 M_2 Hs_2 Gs_2 (fits_nar_byte _) W_2 0 rfl (Nat.le_of_ble_eq_true rfl)
  have V_b : Arv Z h_2 b k_b .byte (1 : Int32) [(.int (nar .byte (y.toInt8.toInt32)))] (.int (0 : Int32)) := V_b
  have Z0 := Nat.le_trans Z0 (Keep.of_wr W_2).1
  have Z1 := Nat.le_trans Z1 (Keep.of_wr W_2).1
  have K0 := K0.wr W_2 (Or.inr le_hh_b)
  have N_2 := Fr.snoc X_2 N0 le_n0_b
  refine hst st_2 ?_
  show G (T_2.setTop (mkF mI 8 #[.val (.int y)] [(.ref b)]))
  exact hend (own_goRet X_2 hx Bd.returns rfl (Or.inr (Or.inr (Or.inr (Or.inr ⟨rfl, rfl, rfl⟩)))) (hb hby dtb_8) Bd.notSynchronized (by rw [e_2]; exact ⟨b, k_b, rfl, N_2, K0, le_hh_b, V_b⟩) (by decide) (by decide))
def own_Qsb (Z : State) (r b : Addr) (h0 : Heap) (n0 : Nat) (v : Option Value) (h : Heap) (L : List Loc) : Prop := v = none ∧ Fr n0 L ∧ Keep h0 h [r] ∧ Exa Z h r "java/lang/String" ∧ Fld Z h r "java/lang/String" "value" "[B" (.ref b) ∧ Fld Z h r "java/lang/String" "coder" "B" (.int (0 : Int32))
theorem dsb_0 : decode jdk_42_method_151_code 0 = .ok (.aload_n 0, 1) := by decide +kernel
theorem dsb_1 : decode jdk_42_method_151_code 1 = .ok (.invokespecial 1, 3) := by decide +kernel
theorem dsb_4 : decode jdk_42_method_151_code 4 = .ok (.aload_n 0, 1) := by decide +kernel
theorem dsb_5 : decode jdk_42_method_151_code 5 = .ok (.aload_n 1, 1) := by decide +kernel
theorem dsb_6 : decode jdk_42_method_151_code 6 = .ok (.putfield 9, 3) := by decide +kernel
theorem dsb_9 : decode jdk_42_method_151_code 9 = .ok (.aload_n 0, 1) := by decide +kernel
theorem dsb_10 : decode jdk_42_method_151_code 10 = .ok (.iload_n 2, 1) := by decide +kernel
theorem dsb_11 : decode jdk_42_method_151_code 11 = .ok (.putfield 15, 3) := by decide +kernel
theorem dsb_14 : decode jdk_42_method_151_code 14 = .ok (.return_, 1) := by decide +kernel
theorem ef_sb (mI : MethodId) (r : Addr) (b : Addr) : entryFrame mI #[(.ref r), (.ref b), (.int (0 : Int32))] 3 = mkF mI 0 #[.val (.ref r), .val (.ref b), .val (.int (0 : Int32))] [] := by first | (simp [entryFrame, mkF, argsToLocals, Value.category]; done) | rfl
theorem pn_sb : plainName "java/lang/String" = true := by first | decide +kernel | (simp [plainName, overriddenIn]; done)
set_option maxRecDepth 65536 in
set_option maxHeartbeats 40000000 in
theorem rmsb (lL : Launch) (Z : State) (a0 : Array Value) (hw : ∀ d ∈ tables_1, d.before a0 Z = true) (ws : List Jvm.Cond) (r : Addr) (b : Addr) (h0 : Heap) (n0 : Nat) (Z0 : n0 ≤ h0.size) (F_value_r : Fld Z h0 r "java/lang/String" "value" "[B" .null) (F_coder_r : Fld Z h0 r "java/lang/String" "coder" "B" (.int (0 : Int32))) (E_r : Exa Z h0 r "java/lang/String") (le_n0_r : n0 ≤ r) :
    MetFree lL (⟨"java/lang/String", "<init>", "([BB)V"⟩ : MethodName) (head1 (Jvm.Cond.code (⟨"java/lang/String", "<init>", "([BB)V"⟩ : MethodName) jdk_42_method_151_code 3 none :: ws) ({ frames := 1, cells := 0, slots := 0, locals := 12 } : Room)) (fun a_ U_ => a_ = #[(.ref r), (.ref b), (.int (0 : Int32))] ∧ Z.Warmed39 U_.vm ∧ U_.heap = h0) (fun _ _ _ _ _ => True) (fun _ U_ o_ W_ => ∃ v_ L_, o_ = .returned v_ ∧ own_Qsb Z r b h0 n0 v_ W_.heap L_ ∧ FrameEnd U_ o_ W_ L_ ({ frames := 1, cells := 0, slots := 0, locals := 12 } : Room).cells ({ frames := 1, cells := 0, slots := 0, locals := 12 } : Room).slots) := by
  refine MetFree.of_bodySF (plainFor_of_name pn_sb) hisR ?_
  intro pP eE sS mI args below meth cC s₁ Bd hml0 hP hK
  obtain ⟨rfl, hZ, hh⟩ := hP
  have hx := Bd.exec
  have hby := Bd.bytes
  have hml : cC.maxLocals = 3 := hml0
  have hown : sS.vm.findClass "java/lang/String" = some mI.cls := by have z := findClass_of_methodNamed Bd.named; exact z
  have hnm := (name_of_methodNamed Bd.named Bd.method).1
  have X0 : Stand pP lL eE ({ frames := 1, cells := 0, slots := 0, locals := 12 } : Room) sS mI #[(.ref r), (.ref b), (.int (0 : Int32))] below meth cC s₁ [] 0 0 := Stand.of_body Bd
  have e0 : s₁.heap = h0 := by rw [← hh, Bd.state]; rfl
  have N0 := Fr.nil n0
  obtain ⟨G, hG, hst, hend⟩ := own_abs pP eE below sS (own_Qsb Z r b h0 n0) ({ frames := 1, cells := 0, slots := 0, locals := 12 } : Room).cells ({ frames := 1, cells := 0, slots := 0, locals := 12 } : Room).slots
  refine hG (S := s₁.setTop (entryFrame mI #[(.ref r), (.ref b), (.int (0 : Int32))] 3)) (hst (fun t_ kt_ => castTop (ef_sb mI r b) kt_) ?_)
  have Z1 := Nat.le_refl h0.size
  have K0 := Keep.refl h0 [r]
  show G (s₁.setTop (mkF mI 0 #[.val (.ref r), .val (.ref b), .val (.int (0 : Int32))] []))
  refine o_aloadN hst X0.here hx (hb hby dsb_0) (pc' := 1) rfl rfl rfl ?_
  obtain ⟨T_1, X_1, e_1, st_1⟩ := initO X0 hx hZ hown (own_w21 hw) (own_w22 hw) (own_w23 hw) e0 (g := (mkF mI 1 #[.val (.ref r), .val (.ref b), .val (.int (0 : Int32))] [(.ref r)])) rfl (by rw [hml]; rfl) rfl (hb hby dsb_1) (by decide) (W := 0) (by show 2 * 0 + _ ≤ _; exact Nat.le_of_eq rfl) (by decide)
  refine hst st_1 ?_
  show G (T_1.setTop (mkF mI 4 #[.val (.ref r), .val (.ref b), .val (.int (0 : Int32))] []))
  refine o_aloadN hst X_1.here hx (hb hby dsb_4) (pc' := 5) rfl rfl rfl ?_
  refine o_aloadN hst X_1.here hx (hb hby dsb_5) (pc' := 6) rfl rfl rfl ?_
  obtain ⟨T_2, h_2, X_2, e_2, W_2, st_2⟩ := putF X_1 hx hZ hown (host := "") (Or.inl (own_w24 hw)) Via.refl e_1 F_value_r E_r (Or.inr ⟨(own_w25 hw), rfl, hnm⟩) (own_w12 hw) (ty := (.array .byte)) (by decide) rfl rfl (g := (mkF mI 6 #[.val (.ref r), .val (.ref b), .val (.int (0 : Int32))] [(.ref b), (.ref r)])) rfl rfl (hb hby dsb_6)
  have Z0 := Nat.le_trans Z0 (Keep.of_wr W_2).1
  have Z1 := Nat.le_trans Z1 (Keep.of_wr W_2).1
  have K0 := K0.wr W_2 (Or.inl (List.mem_of_getElem? (i := 0) rfl))
  have F_value_r := F_value_r.same W_2
  have F_coder_r := F_coder_r.other W_2 (Or.inr (slot_ne (Or.inr (own_w27 hw)) (Or.inr (own_w25 hw)) (by decide) (t := .byte) (t' := (.array .byte)) (by decide) (by decide)))
  have E_r := E_r.wr W_2
  have N_2 := Fr.snoc X_2 N0 le_n0_r
  refine hst st_2 ?_
  show G (T_2.setTop (mkF mI 9 #[.val (.ref r), .val (.ref b), .val (.int (0 : Int32))] []))
  refine o_aloadN hst X_2.here hx (hb hby dsb_9) (pc' := 10) rfl rfl rfl ?_
  refine o_iloadN hst X_2.here hx (hb hby dsb_10) (pc' := 11) rfl rfl ?_
  obtain ⟨T_3, h_3, X_3, e_3, W_3, st_3⟩ := putFN X_2 hx hZ hown (own_w26 hw) Via.refl e_2 F_coder_r E_r (Or.inr ⟨(own_w27 hw), rfl, hnm⟩) (own_w12 hw) (ty := .byte) (v' := (.int (0 : Int32))) (by decide) rfl rfl (g := (mkF mI 11 #[.val (.ref r), .val (.ref b), .val (.int (0 : Int32))] [(.int (0 : Int32)), (.ref r)])) rfl rfl (hb hby dsb_11)
  have Z0 := Nat.le_trans Z0 (Keep.of_wr W_3).1
  have Z1 := Nat.le_trans Z1 (Keep.of_wr W_3).1
  have K0 := K0.wr W_3 (Or.inl (List.mem_of_getElem? (i := 0) rfl))
  have F_value_r := F_value_r.other W_3 (Or.inr (slot_ne (Or.inr (own_w25 hw)) (Or.inr (own_w27 hw)) (by decide) (t := (.array .byte)) (t' := .byte) (by decide) (by decide)))
  have F_coder_r := F_coder_r.same W_3
  have E_r := E_r.wr W_3
  have N_3 := Fr.snoc X_3 N_2 le_n0_r
  refine hst st_3 ?_
  show G (T_3.setTop (mkF mI 14 #[.val (.ref r), .val (.ref b), .val (.int (0 : Int32))] []))
  exact hend (own_goVoid X_3 hx Bd.returns (hb hby dsb_14) Bd.notSynchronized (by rw [e_3]; exact ⟨rfl, N_3, K0, E_r, F_value_r, F_coder_r⟩) (by decide) (by decide))
def own_Qst (Z : State) (y : Int32) (h0 : Heap) (n0 : Nat) (v : Option Value) (h : Heap) (L : List Loc) : Prop := ∃ (r b : Addr) (k_b : ClassId), v = some (.ref r) ∧ Fr n0 L ∧ Keep h0 h [] ∧ h0.size ≤ r ∧ h0.size ≤ b ∧ Exa Z h r "java/lang/String" ∧ Fld Z h r "java/lang/String" "coder" "B" (.int (0 : Int32)) ∧ Fld Z h r "java/lang/String" "value" "[B" (.ref b) ∧ Arv Z h b k_b .byte (1 : Int32) [(.int (nar .byte (y.toInt8.toInt32)))] (.int (0 : Int32))
theorem dvo_0 : decode jdk_42_method_139_code 0 = .ok (.getstatic 38, 3) := by decide +kernel
theorem dvo_3 : decode jdk_42_method_139_code 3 = .ok (.ifCond .eq 23, 3) := by decide +kernel
theorem dvo_6 : decode jdk_42_method_139_code 6 = .ok (.iload_n 0, 1) := by decide +kernel
theorem dvo_7 : decode jdk_42_method_139_code 7 = .ok (.invokestatic 1015, 3) := by decide +kernel
theorem dvo_10 : decode jdk_42_method_139_code 10 = .ok (.ifCond .eq 16, 3) := by decide +kernel
theorem dvo_13 : decode jdk_42_method_139_code 13 = .ok (.new 10, 3) := by decide +kernel
theorem dvo_16 : decode jdk_42_method_139_code 16 = .ok (.dup, 1) := by decide +kernel
theorem dvo_17 : decode jdk_42_method_139_code 17 = .ok (.iload_n 0, 1) := by decide +kernel
theorem dvo_18 : decode jdk_42_method_139_code 18 = .ok (.invokestatic 1018, 3) := by decide +kernel
theorem dvo_21 : decode jdk_42_method_139_code 21 = .ok (.iconst 0, 1) := by decide +kernel
theorem dvo_22 : decode jdk_42_method_139_code 22 = .ok (.invokespecial 209, 3) := by decide +kernel
theorem dvo_25 : decode jdk_42_method_139_code 25 = .ok (.areturn, 1) := by decide +kernel
theorem ef_vo (mI : MethodId) (y : Int32) : entryFrame mI #[(.int y)] 1 = mkF mI 0 #[.val (.int y)] [] := by first | (simp [entryFrame, mkF, argsToLocals, Value.category]; done) | rfl
theorem pn_vo : plainName "java/lang/String" = true := by first | decide +kernel | (simp [plainName, overriddenIn]; done)
set_option maxRecDepth 65536 in
set_option maxHeartbeats 40000000 in
theorem rmvo (lL : Launch) (Z : State) (a0 : Array Value) (hw : ∀ d ∈ tables_1, d.before a0 Z = true) (ws : List Jvm.Cond) (y : Int32) (cz : Int32) (h0 : Heap) (n0 : Nat) (Z0 : n0 ≤ h0.size) (S_c : Sta Z h0 "java/lang/String" "COMPACT_STRINGS" "Z" (.int cz)) (hcz : ¬ cz = 0) (hy : ¬ (255 : Int32) < y) :
    MetFree lL (⟨"java/lang/String", "valueOf", "(C)Ljava/lang/String;"⟩ : MethodName) (head1 (Jvm.Cond.code (⟨"java/lang/String", "valueOf", "(C)Ljava/lang/String;"⟩ : MethodName) jdk_42_method_139_code 1 (some (.object "java/lang/String")) :: ws) ({ frames := 2, cells := 2, slots := 5, locals := 27 } : Room)) (fun a_ U_ => a_ = #[(.int y)] ∧ Z.Warmed39 U_.vm ∧ U_.heap = h0) (fun _ _ _ _ _ => True) (fun _ U_ o_ W_ => ∃ v_ L_, o_ = .returned v_ ∧ own_Qst Z y h0 n0 v_ W_.heap L_ ∧ FrameEnd U_ o_ W_ L_ ({ frames := 2, cells := 2, slots := 5, locals := 27 } : Room).cells ({ frames := 2, cells := 2, slots := 5, locals := 27 } : Room).slots) := by
  refine MetFree.of_bodySF (plainFor_of_name pn_vo) hisR ?_
  intro pP eE sS mI args below meth cC s₁ Bd hml0 hP hK
  obtain ⟨rfl, hZ, hh⟩ := hP
  have hx := Bd.exec
  have hby := Bd.bytes
  have hml : cC.maxLocals = 1 := hml0
  have hown : sS.vm.findClass "java/lang/String" = some mI.cls := by have z := findClass_of_methodNamed Bd.named; exact z
  have hnm := (name_of_methodNamed Bd.named Bd.method).1
  have X0 : Stand pP lL eE ({ frames := 2, cells := 2, slots := 5, locals := 27 } : Room) sS mI #[(.int y)] below meth cC s₁ [] 0 0 := Stand.of_body Bd
  have e0 : s₁.heap = h0 := by rw [← hh, Bd.state]; rfl
  have N0 := Fr.nil n0
  obtain ⟨G, hG, hst, hend⟩ := own_abs pP eE below sS (own_Qst Z y h0 n0) ({ frames := 2, cells := 2, slots := 5, locals := 27 } : Room).cells ({ frames := 2, cells := 2, slots := 5, locals := 27 } : Room).slots
  refine hG (S := s₁.setTop (entryFrame mI #[(.int y)] 1)) (hst (fun t_ kt_ => castTop (ef_vo mI y) kt_) ?_)
  have Z1 := Nat.le_refl h0.size
  have K0 := Keep.refl h0 []
  show G (s₁.setTop (mkF mI 0 #[.val (.int y)] []))
  obtain ⟨T_1, X_1, e_1, st_1⟩ := getS2 X0 hx hZ hown (host := "") (Or.inl (own_w6 hw)) Via.refl e0 S_c (g := (mkF mI 0 #[.val (.int y)] [])) rfl (hb hby dvo_0)
  refine hst st_1 ?_
  show G (T_1.setTop (mkF mI 3 #[.val (.int y)] [(.int cz)]))
  have hc3 : ¬ (cz = (0 : Int32)) := hcz
  refine hst (fun _ kt => XS.ifNo X_1.here hx rfl (hb hby dvo_3) rfl ((if0 _ _).trans (feq hc3).1) kt) ?_
  show G (T_1.setTop (mkF mI 6 #[.val (.int y)] []))
  refine o_iloadN hst X_1.here hx (hb hby dvo_6) (pc' := 7) rfl rfl ?_
  obtain ⟨_, _, ⟨T_2, L_2, k_2, n_2⟩, -, X_2, ⟨Lc_2, hQ_2, l_2, y_2, z_2⟩, st_2⟩ := Jvm.LawKit.callS X_1 hx (y := (⟨"java/lang/StringLatin1", "canEncode", "(C)Z"⟩ : MethodName)) hown (mvT hZ (own_w7 hw)) (mvT hZ (own_w8 hw)) (mvT hZ (own_w9 hw)) (mvT hZ (own_w10 hw)) (by decide) (backOf (W := 0) (rmce lL Z a0 hw [] y  h0 n0 Z0 hy) hZ (own_w10 hw) (own_w9 hw) (by decide) (by decide)) (g := (mkF mI 7 #[.val (.int y)] [(.int y)])) rfl (by rw [hml]; rfl) (argsL := [(.int y)]) (rest := []) (lenOf pd_14 rfl) rfl (by show 2 * 0 + _ ≤ _; exact Nat.le_of_eq rfl) (hb hby dvo_7) (fun _ _ => ⟨rfl, e_1, (by decide : 0 + 0 ≤ _), (by decide : 0 + 0 ≤ _)⟩)
  dsimp only [Pt.U, Pt.locs, Pt.cells, Pt.slots] at X_2 l_2 y_2 z_2 st_2 hQ_2
  subst l_2 y_2 z_2
  obtain ⟨rfl, N_2q, eh_2⟩ := hQ_2
  have N_2 := Fr.app N0 N_2q
  refine hst (fun _ kt => st_2 _ kt) ?_
  show G (T_2.setTop (mkF mI 10 #[.val (.int y)] [(.int (1 : Int32))]))
  have hc10 : ¬ ((1 : Int32) = (0 : Int32)) := by decide
  refine hst (fun _ kt => XS.ifNo X_2.here hx rfl (hb hby dvo_10) rfl ((if0 _ _).trans (feq hc10).1) kt) ?_
  show G (T_2.setTop (mkF mI 13 #[.val (.int y)] []))
  obtain ⟨T_3, h_3, X_3, e_3, E_3, A_3, D_3, -, st_3⟩ := newO X_2 hx hZ hown (own_w11 hw) (own_w12 hw) (own_w4 hw) eh_2 (g := (mkF mI 13 #[.val (.int y)] [])) rfl (hb hby dvo_13) (by decide) (by decide)
  obtain ⟨r, g_r⟩ : ∃ z, z = h0.size := ⟨_, rfl⟩
  rw [← g_r] at A_3 D_3 st_3
  have le_n0_r : n0 ≤ r := Nat.le_trans Z0 (Nat.le_of_eq g_r.symm)
  have le_hh_r : h0.size ≤ r := Nat.le_trans Z1 (Nat.le_of_eq g_r.symm)
  have Z0 := Nat.le_trans Z0 E_3.1
  have Z1 := Nat.le_trans Z1 E_3.1
  have K0 := K0.ext E_3
  have E_r : Exa Z h_3 r "java/lang/String" := A_3
  have F_value_r : Fld Z h_3 r "java/lang/String" "value" "[B" .null := D_3 (Or.inr (own_w25 hw)) (ty := (.array .byte)) (by decide)
  have F_coder_r : Fld Z h_3 r "java/lang/String" "coder" "B" (.int (0 : Int32)) := D_3 (Or.inr (own_w27 hw)) (ty := .byte) (by decide)
  refine hst st_3 ?_
  show G (T_3.setTop (mkF mI 16 #[.val (.int y)] [(.ref r)]))
  refine o_dup hst X_3.here hx (hb hby dvo_16) (pc' := 17) rfl rfl ?_
  refine o_iloadN hst X_3.here hx (hb hby dvo_17) (pc' := 18) rfl rfl ?_
  obtain ⟨_, _, ⟨T_4, L_4, k_4, n_4⟩, -, X_4, ⟨Lc_4, hQ_4, l_4, y_4, z_4⟩, st_4⟩ := Jvm.LawKit.callS X_3 hx (y := (⟨"java/lang/StringLatin1", "toBytes", "(C)[B"⟩ : MethodName)) hown (mvT hZ (own_w13 hw)) (mvT hZ (own_w14 hw)) (mvT hZ (own_w9 hw)) (mvT hZ (own_w15 hw)) (by decide) (backOf (W := 2) (rmtb lL Z a0 hw [] y  h_3 n0 Z0) hZ (own_w15 hw) (own_w9 hw) (by decide) (by decide)) (g := (mkF mI 18 #[.val (.int y)] [(.int y), (.ref r), (.ref r)])) rfl (by rw [hml]; rfl) (argsL := [(.int y)]) (rest := [(.ref r), (.ref r)]) (lenOf pd_15 rfl) rfl (by show 2 * 0 + _ ≤ _; exact Nat.le_of_eq rfl) (hb hby dvo_18) (fun _ _ => ⟨rfl, e_3, (by decide : 1 + 1 ≤ _), (by decide : 4 + 1 ≤ _)⟩)
  dsimp only [Pt.U, Pt.locs, Pt.cells, Pt.slots] at X_4 l_4 y_4 z_4 st_4 hQ_4
  subst l_4 y_4 z_4
  obtain ⟨b, k_b, rfl, N_4q, K_4, le_b, V_b⟩ := hQ_4
  have le_hh_b := Nat.le_trans Z1 le_b
  have Z0 := Nat.le_trans Z0 K_4.1
  have Z1 := Nat.le_trans Z1 K_4.1
  have K0 := K0.trans K_4 all0
  have E_r := E_r.keep K_4
  have F_value_r := F_value_r.keep K_4 nin0
  have F_coder_r := F_coder_r.keep K_4 nin0
  have N_4 := Fr.app N_2 N_4q
  refine hst (fun _ kt => st_4 _ kt) ?_
  show G (T_4.setTop (mkF mI 21 #[.val (.int y)] [(.ref b), (.ref r), (.ref r)]))
  refine o_iconst hst X_4.here hx (hb hby dvo_21) (pc' := 22) rfl (z := (0 : Int32)) rfl ?_
  obtain ⟨_, _, ⟨T_5, L_5, k_5, n_5⟩, -, X_5, ⟨Lc_5, hQ_5, l_5, y_5, z_5⟩, st_5⟩ := X_4.specialBack hx (y := (⟨"java/lang/String", "<init>", "([BB)V"⟩ : MethodName)) rfl hown (mvT hZ (own_w17 hw)) (mvT hZ (own_w18 hw)) (mvT hZ (own_w20 hw)) (by decide) (backOf (W := 1) (rmsb lL Z a0 hw [] r b  T_4.heap n0 Z0 F_value_r F_coder_r E_r le_n0_r) hZ (own_w20 hw) (own_w4 hw) (by decide) (by decide)) (g := (mkF mI 22 #[.val (.int y)] [(.int (0 : Int32)), (.ref b), (.ref r), (.ref r)])) rfl (by rw [hml]; rfl) (Steps.refl _) (a := r) (argsL := [(.ref b), (.int (0 : Int32))]) (rest := [(.ref r)]) (lenOf pd_16 rfl) rfl (by show 2 * 0 + _ ≤ _; exact Nat.le_of_eq rfl) (hb hby dvo_22) (fun _ _ => ⟨rfl, rfl, (by decide : 2 + 0 ≤ _), (by decide : 5 + 0 ≤ _)⟩)
  dsimp only [Pt.U, Pt.locs, Pt.cells, Pt.slots] at X_5 l_5 y_5 z_5 st_5 hQ_5
  subst l_5 y_5 z_5
  obtain ⟨rfl, N_5q, K_5, Ex_5, G1, G2⟩ := hQ_5
  have ne_b_r : b ≠ r := Ne.symm (own_ne_arv E_r (own_w12 hw) V_b)
  have Z0 := Nat.le_trans Z0 K_5.1
  have Z1 := Nat.le_trans Z1 K_5.1
  have K0 := K0.trans K_5 (allS (Or.inr le_hh_r) all0)
  have E_r := E_r.keep K_5
  have V_b := V_b.keep K_5 (ninS ne_b_r nin0)
  have F_value_r := G1
  have F_coder_r := G2
  have N_5 := Fr.app N_4 N_5q
  refine hst (fun _ kt => st_5.trans kt) ?_
  show G (T_5.setTop (mkF mI 25 #[.val (.int y)] [(.ref r)]))
  exact hend (own_goRet X_5 hx Bd.returns rfl (Or.inr (Or.inr (Or.inr (Or.inr ⟨rfl, rfl, rfl⟩)))) (hb hby dvo_25) Bd.notSynchronized (by exact ⟨r, b, k_b, rfl, N_5, K0, le_hh_r, le_hh_b, E_r, F_coder_r, F_value_r, V_b⟩) (by decide) (by decide))
def own_Qrg (Z : State) (g m1 m2 lf : Addr) (z0 z1 z2 : Int32) (h0 : Heap) (n0 : Nat) (v : Option Value) (h : Heap) (L : List Loc) : Prop := v = none ∧ Fr n0 L ∧ Keep h0 h [g, m1, m2] ∧ Exa Z h g own_RG ∧ ∃ (c : Addr) (kc : ClassId), h0.size ≤ c ∧ Fld Z h g own_RG "literalObjects" "[I" (.ref c) ∧ Arv Z h c kc .int (3 : Int32) [(.int z0), (.int z1), (.int z2)] (.int (0 : Int32)) ∧ Fld Z h g own_RG "lexicalForms" "[Ljava/lang/String;" (.ref lf)
theorem drg_0 : decode prog_29_method_1_code 0 = .ok (.aload_n 0, 1) := by decide +kernel
theorem drg_1 : decode prog_29_method_1_code 1 = .ok (.invokespecial 1, 3) := by decide +kernel
theorem drg_4 : decode prog_29_method_1_code 4 = .ok (.aload_n 0, 1) := by decide +kernel
theorem drg_5 : decode prog_29_method_1_code 5 = .ok (.aload_n 1, 1) := by decide +kernel
theorem drg_6 : decode prog_29_method_1_code 6 = .ok (.putfield 7, 3) := by decide +kernel
theorem drg_9 : decode prog_29_method_1_code 9 = .ok (.aload_n 0, 1) := by decide +kernel
theorem drg_10 : decode prog_29_method_1_code 10 = .ok (.aload_n 2, 1) := by decide +kernel
theorem drg_11 : decode prog_29_method_1_code 11 = .ok (.putfield 13, 3) := by decide +kernel
theorem drg_14 : decode prog_29_method_1_code 14 = .ok (.aload_n 0, 1) := by decide +kernel
theorem drg_15 : decode prog_29_method_1_code 15 = .ok (.aload_n 3, 1) := by decide +kernel
theorem drg_16 : decode prog_29_method_1_code 16 = .ok (.putfield 16, 3) := by decide +kernel
theorem drg_19 : decode prog_29_method_1_code 19 = .ok (.aload_n 0, 1) := by decide +kernel
theorem drg_20 : decode prog_29_method_1_code 20 = .ok (.aload 4, 2) := by decide +kernel
theorem drg_22 : decode prog_29_method_1_code 22 = .ok (.invokevirtual 19, 3) := by decide +kernel
theorem drg_25 : decode prog_29_method_1_code 25 = .ok (.putfield 25, 3) := by decide +kernel
theorem drg_28 : decode prog_29_method_1_code 28 = .ok (.aload_n 0, 1) := by decide +kernel
theorem drg_29 : decode prog_29_method_1_code 29 = .ok (.aload 4, 2) := by decide +kernel
theorem drg_31 : decode prog_29_method_1_code 31 = .ok (.invokevirtual 29, 3) := by decide +kernel
theorem drg_34 : decode prog_29_method_1_code 34 = .ok (.putfield 32, 3) := by decide +kernel
theorem drg_37 : decode prog_29_method_1_code 37 = .ok (.aload_n 0, 1) := by decide +kernel
theorem drg_38 : decode prog_29_method_1_code 38 = .ok (.aload 4, 2) := by decide +kernel
theorem drg_40 : decode prog_29_method_1_code 40 = .ok (.invokevirtual 35, 3) := by decide +kernel
theorem drg_43 : decode prog_29_method_1_code 43 = .ok (.putfield 38, 3) := by decide +kernel
theorem drg_46 : decode prog_29_method_1_code 46 = .ok (.aload_n 0, 1) := by decide +kernel
theorem drg_47 : decode prog_29_method_1_code 47 = .ok (.aload 4, 2) := by decide +kernel
theorem drg_49 : decode prog_29_method_1_code 49 = .ok (.invokevirtual 41, 3) := by decide +kernel
theorem drg_52 : decode prog_29_method_1_code 52 = .ok (.putfield 45, 3) := by decide +kernel
theorem drg_55 : decode prog_29_method_1_code 55 = .ok (.aload_n 0, 1) := by decide +kernel
theorem drg_56 : decode prog_29_method_1_code 56 = .ok (.aload 5, 2) := by decide +kernel
theorem drg_58 : decode prog_29_method_1_code 58 = .ok (.invokevirtual 19, 3) := by decide +kernel
theorem drg_61 : decode prog_29_method_1_code 61 = .ok (.putfield 49, 3) := by decide +kernel
theorem drg_64 : decode prog_29_method_1_code 64 = .ok (.aload_n 0, 1) := by decide +kernel
theorem drg_65 : decode prog_29_method_1_code 65 = .ok (.aload 5, 2) := by decide +kernel
theorem drg_67 : decode prog_29_method_1_code 67 = .ok (.invokevirtual 29, 3) := by decide +kernel
theorem drg_70 : decode prog_29_method_1_code 70 = .ok (.putfield 52, 3) := by decide +kernel
theorem drg_73 : decode prog_29_method_1_code 73 = .ok (.aload_n 0, 1) := by decide +kernel
theorem drg_74 : decode prog_29_method_1_code 74 = .ok (.aload 5, 2) := by decide +kernel
theorem drg_76 : decode prog_29_method_1_code 76 = .ok (.invokevirtual 41, 3) := by decide +kernel
theorem drg_79 : decode prog_29_method_1_code 79 = .ok (.putfield 55, 3) := by decide +kernel
theorem drg_82 : decode prog_29_method_1_code 82 = .ok (.aload_n 0, 1) := by decide +kernel
theorem drg_83 : decode prog_29_method_1_code 83 = .ok (.aload 5, 2) := by decide +kernel
theorem drg_85 : decode prog_29_method_1_code 85 = .ok (.invokevirtual 35, 3) := by decide +kernel
theorem drg_88 : decode prog_29_method_1_code 88 = .ok (.putfield 58, 3) := by decide +kernel
theorem drg_91 : decode prog_29_method_1_code 91 = .ok (.aload_n 0, 1) := by decide +kernel
theorem drg_92 : decode prog_29_method_1_code 92 = .ok (.aload 6, 2) := by decide +kernel
theorem drg_94 : decode prog_29_method_1_code 94 = .ok (.putfield 61, 3) := by decide +kernel
theorem drg_97 : decode prog_29_method_1_code 97 = .ok (.aload_n 0, 1) := by decide +kernel
theorem drg_98 : decode prog_29_method_1_code 98 = .ok (.aload 7, 2) := by decide +kernel
theorem drg_100 : decode prog_29_method_1_code 100 = .ok (.putfield 64, 3) := by decide +kernel
theorem drg_103 : decode prog_29_method_1_code 103 = .ok (.return_, 1) := by decide +kernel
theorem ef_rg (mI : MethodId) (g : Addr) (ir : Addr) (pi : Addr) (gl : Addr) (t1 : Addr) (t2 : Addr) (lf : Addr) (px : Addr) : entryFrame mI #[(.ref g), (.ref ir), (.ref pi), (.ref gl), (.ref t1), (.ref t2), (.ref lf), (.ref px)] 8 = mkF mI 0 #[.val (.ref g), .val (.ref ir), .val (.ref pi), .val (.ref gl), .val (.ref t1), .val (.ref t2), .val (.ref lf), .val (.ref px)] [] := by first | (simp [entryFrame, mkF, argsToLocals, Value.category]; done) | rfl
theorem pn_rg : plainName own_RG = true := by first | decide +kernel | (simp [plainName, overriddenIn]; done)
set_option maxRecDepth 65536 in
set_option maxHeartbeats 40000000 in
theorem rmrg (lL : Launch) (Z : State) (a0 : Array Value) (hw : ∀ d ∈ tables_1, d.before a0 Z = true) (ws : List Jvm.Cond) (g : Addr) (ir : Addr) (pi : Addr) (gl : Addr) (t1 : Addr) (t2 : Addr) (lf : Addr) (px : Addr) (s1 : Addr) (m1 : Addr) (bs1 : Addr) (bp1 : Addr) (bo1 : Addr) (bf1 : Addr) (s2 : Addr) (m2 : Addr) (bs2 : Addr) (bp2 : Addr) (bo2 : Addr) (bf2 : Addr) (k_bs1 : ClassId) (k_bp1 : ClassId) (k_bo1 : ClassId) (k_bf1 : ClassId) (k_bs2 : ClassId) (k_bp2 : ClassId) (k_bo2 : ClassId) (k_bf2 : ClassId) (z0 : Int32) (z1 : Int32) (z2 : Int32) (x0 : Int32) (x1 : Int32) (x2 : Int32) (y0 : Int32) (y1 : Int32) (y2 : Int32) (w0 : Int32) (w1 : Int32) (w2 : Int32) (h0 : Heap) (n0 : Nat) (Z0 : n0 ≤ h0.size) (F_iris_g : Fld Z h0 g own_RG "iris" "[Ljava/lang/String;" .null) (F_predicateIris_g : Fld Z h0 g own_RG "predicateIris" "[Ljava/lang/String;" .null) (F_graphLabels_g : Fld Z h0 g own_RG "graphLabels" "[Ljava/lang/String;" .null) (F_linkSources_g : Fld Z h0 g own_RG "linkSources" "[I" .null) (F_linkPredicates_g : Fld Z h0 g own_RG "linkPredicates" "[I" .null) (F_linkTargets_g : Fld Z h0 g own_RG "linkTargets" "[I" .null) (F_linkMemberships_g : Fld Z h0 g own_RG "linkMemberships" "Lcom/example/weser/weser/core/Memberships;" .null) (F_literalSubjects_g : Fld Z h0 g own_RG "literalSubjects" "[I" .null) (F_literalPredicates_g : Fld Z h0 g own_RG "literalPredicates" "[I" .null) (F_literalMemberships_g : Fld Z h0 g own_RG "literalMemberships" "Lcom/example/weser/weser/core/Memberships;" .null) (F_literalObjects_g : Fld Z h0 g own_RG "literalObjects" "[I" .null) (F_lexicalForms_g : Fld Z h0 g own_RG "lexicalForms" "[Ljava/lang/String;" .null) (F_prefixes_g : Fld Z h0 g own_RG "prefixes" "Lcom/example/weser/weser/core/Prefixes;" .null) (E_g : Exa Z h0 g own_RG) (le_n0_g : n0 ≤ g) (E_t1 : Exa Z h0 t1 own_TT) (F_subjects_t1 : Fld Z h0 t1 own_TT "subjects" "[I" (.ref bs1)) (F_predicates_t1 : Fld Z h0 t1 own_TT "predicates" "[I" (.ref bp1)) (F_objects_t1 : Fld Z h0 t1 own_TT "objects" "[I" (.ref bo1)) (F_firstGraphs_t1 : Fld Z h0 t1 own_TT "firstGraphs" "[I" (.ref bf1)) (F_otherGraphs_t1 : Fld Z h0 t1 own_TT "otherGraphs" "Ljava/util/Set;" (.ref s1)) (F_size_t1 : Fld Z h0 t1 own_TT "size" "I" (.int (0 : Int32))) (E_s1 : Exa Z h0 s1 "java/util/LinkedHashSet") (F_map_s1 : Fld Z h0 s1 "java/util/HashSet" "map" "Ljava/util/HashMap;" (.ref m1)) (E_m1 : Exa Z h0 m1 "java/util/LinkedHashMap") (F_size_m1 : Fld Z h0 m1 "java/util/HashMap" "size" "I" (.int (0 : Int32))) (F_keySet_m1 : Fld Z h0 m1 "java/util/AbstractMap" "keySet" "Ljava/util/Set;" .null) (F_head_m1 : Fld Z h0 m1 "java/util/LinkedHashMap" "head" "Ljava/util/LinkedHashMap$Entry;" .null) (F_modCount_m1 : Fld Z h0 m1 "java/util/HashMap" "modCount" "I" (.int (0 : Int32))) (V_bs1 : Arv Z h0 bs1 k_bs1 .int (1024 : Int32) [] (.int (0 : Int32))) (V_bp1 : Arv Z h0 bp1 k_bp1 .int (1024 : Int32) [] (.int (0 : Int32))) (V_bo1 : Arv Z h0 bo1 k_bo1 .int (1024 : Int32) [] (.int (0 : Int32))) (V_bf1 : Arv Z h0 bf1 k_bf1 .int (1024 : Int32) [] (.int (0 : Int32))) (E_t2 : Exa Z h0 t2 own_TT) (F_subjects_t2 : Fld Z h0 t2 own_TT "subjects" "[I" (.ref bs2)) (F_predicates_t2 : Fld Z h0 t2 own_TT "predicates" "[I" (.ref bp2)) (F_objects_t2 : Fld Z h0 t2 own_TT "objects" "[I" (.ref bo2)) (F_firstGraphs_t2 : Fld Z h0 t2 own_TT "firstGraphs" "[I" (.ref bf2)) (F_otherGraphs_t2 : Fld Z h0 t2 own_TT "otherGraphs" "Ljava/util/Set;" (.ref s2)) (F_size_t2 : Fld Z h0 t2 own_TT "size" "I" (.int (3 : Int32))) (E_s2 : Exa Z h0 s2 "java/util/LinkedHashSet") (F_map_s2 : Fld Z h0 s2 "java/util/HashSet" "map" "Ljava/util/HashMap;" (.ref m2)) (E_m2 : Exa Z h0 m2 "java/util/LinkedHashMap") (F_size_m2 : Fld Z h0 m2 "java/util/HashMap" "size" "I" (.int (0 : Int32))) (F_keySet_m2 : Fld Z h0 m2 "java/util/AbstractMap" "keySet" "Ljava/util/Set;" .null) (F_head_m2 : Fld Z h0 m2 "java/util/LinkedHashMap" "head" "Ljava/util/LinkedHashMap$Entry;" .null) (F_modCount_m2 : Fld Z h0 m2 "java/util/HashMap" "modCount" "I" (.int (0 : Int32))) (V_bs2 : Arv Z h0 bs2 k_bs2 .int (1024 : Int32) [(.int x0), (.int x1), (.int x2)] (.int (0 : Int32))) (V_bp2 : Arv Z h0 bp2 k_bp2 .int (1024 : Int32) [(.int y0), (.int y1), (.int y2)] (.int (0 : Int32))) (V_bo2 : Arv Z h0 bo2 k_bo2 .int (1024 : Int32) [(.int z0), (.int z1), (.int z2)] (.int (0 : Int32))) (V_bf2 : Arv Z h0 bf2 k_bf2 .int (1024 : Int32) [(.int w0), (.int w1), (.int w2)] (.int (0 : Int32))) (le_n0_m1 : n0 ≤ m1) (le_n0_m2 : n0 ≤ m2) (ne_g_t1 : g ≠ t1) (ne_g_s1 : g ≠ s1) (ne_g_m1 : g ≠ m1) (ne_g_bs1 : g ≠ bs1) (ne_g_bp1 : g ≠ bp1) (ne_g_bo1 : g ≠ bo1) (ne_g_bf1 : g ≠ bf1) (ne_g_t2 : g ≠ t2) (ne_g_s2 : g ≠ s2) (ne_g_m2 : g ≠ m2) (ne_g_bs2 : g ≠ bs2) (ne_g_bp2 : g ≠ bp2) (ne_g_bo2 : g ≠ bo2) (ne_g_bf2 : g ≠ bf2) (ne_m1_m2 : m1 ≠ m2) :
    MetFree lL (⟨own_RG, "<init>", "([Ljava/lang/String;[Ljava/lang/String;[Ljava/lang/String;Lcom/example/weser/weser/core/TripleTable;Lcom/example/weser/weser/core/TripleTable;[Ljava/lang/String;Lcom/example/weser/weser/core/Prefixes;)V"⟩ : MethodName) (head1 (Jvm.Cond.code (⟨own_RG, "<init>", "([Ljava/lang/String;[Ljava/lang/String;[Ljava/lang/String;Lcom/example/weser/weser/core/TripleTable;Lcom/example/weser/weser/core/TripleTable;[Ljava/lang/String;Lcom/example/weser/weser/core/Prefixes;)V"⟩ : MethodName) prog_29_method_1_code 8 none :: ws) ({ frames := 8, cells := 16, slots := 33, locals := 109 } : Room)) (fun a_ U_ => a_ = #[(.ref g), (.ref ir), (.ref pi), (.ref gl), (.ref t1), (.ref t2), (.ref lf), (.ref px)] ∧ Z.Warmed39 U_.vm ∧ U_.heap = h0) (fun _ _ _ _ _ => True) (fun _ U_ o_ W_ => ∃ v_ L_, o_ = .returned v_ ∧ own_Qrg Z g m1 m2 lf z0 z1 z2 h0 n0 v_ W_.heap L_ ∧ FrameEnd U_ o_ W_ L_ ({ frames := 8, cells := 16, slots := 33, locals := 109 } : Room).cells ({ frames := 8, cells := 16, slots := 33, locals := 109 } : Room).slots) := by
  refine MetFree.of_bodySF (plainFor_of_name pn_rg) hisR ?_
  intro pP eE sS mI args below meth cC s₁ Bd hml0 hP hK
  obtain ⟨rfl, hZ, hh⟩ := hP
  have hx := Bd.exec
  have hby := Bd.bytes
  have hml : cC.maxLocals = 8 := hml0
  have hown : sS.vm.findClass own_RG = some mI.cls := by have z := findClass_of_methodNamed Bd.named; exact z
  have hnm := (name_of_methodNamed Bd.named Bd.method).1
  have X0 : Stand pP lL eE ({ frames := 8, cells := 16, slots := 33, locals := 109 } : Room) sS mI #[(.ref g), (.ref ir), (.ref pi), (.ref gl), (.ref t1), (.ref t2), (.ref lf), (.ref px)] below meth cC s₁ [] 0 0 := Stand.of_body Bd
  have e0 : s₁.heap = h0 := by rw [← hh, Bd.state]; rfl
  have N0 := Fr.nil n0
  obtain ⟨G, hG, hst, hend⟩ := own_abs pP eE below sS (own_Qrg Z g m1 m2 lf z0 z1 z2 h0 n0) ({ frames := 8, cells := 16, slots := 33, locals := 109 } : Room).cells ({ frames := 8, cells := 16, slots := 33, locals := 109 } : Room).slots
  refine hG (S := s₁.setTop (entryFrame mI #[(.ref g), (.ref ir), (.ref pi), (.ref gl), (.ref t1), (.ref t2), (.ref lf), (.ref px)] 8)) (hst (fun t_ kt_ => castTop (ef_rg mI g ir pi gl t1 t2 lf px) kt_) ?_)
  have Z1 := Nat.le_refl h0.size
  have K0 := Keep.refl h0 [g, m1, m2]
  show G (s₁.setTop (mkF mI 0 #[.val (.ref g), .val (.ref ir), .val (.ref pi), .val (.ref gl), .val (.ref t1), .val (.ref t2), .val (.ref lf), .val (.ref px)] []))
  refine o_aloadN hst X0.here hx (hb hby drg_0) (pc' := 1) rfl rfl rfl ?_
  obtain ⟨T_1, X_1, e_1, st_1⟩ := initO X0 hx hZ hown (own_w155 hw) (own_w22 hw) (own_w23 hw) e0 (g := (mkF mI 1 #[.val (.ref g), .val (.ref ir), .val (.ref pi), .val (.ref gl), .val (.ref t1), .val (.ref t2), .val (.ref lf), .val (.ref px)] [(.ref g)])) rfl (by rw [hml]; rfl) rfl (hb hby drg_1) (by decide) (W := 0) (by show 2 * 0 + _ ≤ _; exact Nat.le_of_eq rfl) (by decide)
  refine hst st_1 ?_
  show G (T_1.setTop (mkF mI 4 #[.val (.ref g), .val (.ref ir), .val (.ref pi), .val (.ref gl), .val (.ref t1), .val (.ref t2), .val (.ref lf), .val (.ref px)] []))
  refine o_aloadN hst X_1.here hx (hb hby drg_4) (pc' := 5) rfl rfl rfl ?_
  refine o_aloadN hst X_1.here hx (hb hby drg_5) (pc' := 6) rfl rfl rfl ?_
  obtain ⟨T_2, h_2, X_2, e_2, W_2, st_2⟩ := putF X_1 hx hZ hown (host := "") (Or.inl (own_w156 hw)) Via.refl e_1 F_iris_g E_g (Or.inr ⟨(own_w157 hw), rfl, hnm⟩) (own_w132 hw) (ty := (.array (.object "java/lang/String"))) (by decide) rfl rfl (g := (mkF mI 6 #[.val (.ref g), .val (.ref ir), .val (.ref pi), .val (.ref gl), .val (.ref t1), .val (.ref t2), .val (.ref lf), .val (.ref px)] [(.ref ir), (.ref g)])) rfl rfl (hb hby drg_6)
  have Z0 := Nat.le_trans Z0 (Keep.of_wr W_2).1
  have Z1 := Nat.le_trans Z1 (Keep.of_wr W_2).1
  have K0 := K0.wr W_2 (Or.inl (List.mem_of_getElem? (i := 0) rfl))
  have F_iris_g := F_iris_g.same W_2
  have F_predicateIris_g := F_predicateIris_g.other W_2 (Or.inr (slot_ne (Or.inr (own_w159 hw)) (Or.inr (own_w157 hw)) (by decide) (t := (.array (.object "java/lang/String"))) (t' := (.array (.object "java/lang/String"))) (by decide) (by decide)))
  have F_graphLabels_g := F_graphLabels_g.other W_2 (Or.inr (slot_ne (Or.inr (own_w161 hw)) (Or.inr (own_w157 hw)) (by decide) (t := (.array (.object "java/lang/String"))) (t' := (.array (.object "java/lang/String"))) (by decide) (by decide)))
  have F_linkSources_g := F_linkSources_g.other W_2 (Or.inr (slot_ne (Or.inr (own_w180 hw)) (Or.inr (own_w157 hw)) (by decide) (t := (.array .int)) (t' := (.array (.object "java/lang/String"))) (by decide) (by decide)))
  have F_linkPredicates_g := F_linkPredicates_g.other W_2 (Or.inr (slot_ne (Or.inr (own_w187 hw)) (Or.inr (own_w157 hw)) (by decide) (t := (.array .int)) (t' := (.array (.object "java/lang/String"))) (by decide) (by decide)))
  have F_linkTargets_g := F_linkTargets_g.other W_2 (Or.inr (slot_ne (Or.inr (own_w194 hw)) (Or.inr (own_w157 hw)) (by decide) (t := (.array .int)) (t' := (.array (.object "java/lang/String"))) (by decide) (by decide)))
  have F_linkMemberships_g := F_linkMemberships_g.other W_2 (Or.inr (slot_ne (Or.inr (own_w314 hw)) (Or.inr (own_w157 hw)) (by decide) (t := (.object own_MB)) (t' := (.array (.object "java/lang/String"))) (by decide) (by decide)))
  have F_literalSubjects_g := F_literalSubjects_g.other W_2 (Or.inr (slot_ne (Or.inr (own_w316 hw)) (Or.inr (own_w157 hw)) (by decide) (t := (.array .int)) (t' := (.array (.object "java/lang/String"))) (by decide) (by decide)))
  have F_literalPredicates_g := F_literalPredicates_g.other W_2 (Or.inr (slot_ne (Or.inr (own_w318 hw)) (Or.inr (own_w157 hw)) (by decide) (t := (.array .int)) (t' := (.array (.object "java/lang/String"))) (by decide) (by decide)))
  have F_literalMemberships_g := F_literalMemberships_g.other W_2 (Or.inr (slot_ne (Or.inr (own_w320 hw)) (Or.inr (own_w157 hw)) (by decide) (t := (.object own_MB)) (t' := (.array (.object "java/lang/String"))) (by decide) (by decide)))
  have F_literalObjects_g := F_literalObjects_g.other W_2 (Or.inr (slot_ne (Or.inr (own_w322 hw)) (Or.inr (own_w157 hw)) (by decide) (t := (.array .int)) (t' := (.array (.object "java/lang/String"))) (by decide) (by decide)))
  have F_lexicalForms_g := F_lexicalForms_g.other W_2 (Or.inr (slot_ne (Or.inr (own_w324 hw)) (Or.inr (own_w157 hw)) (by decide) (t := (.array (.object "java/lang/String"))) (t' := (.array (.object "java/lang/String"))) (by decide) (by decide)))
  have F_prefixes_g := F_prefixes_g.other W_2 (Or.inr (slot_ne (Or.inr (own_w326 hw)) (Or.inr (own_w157 hw)) (by decide) (t := (.object own_PX)) (t' := (.array (.object "java/lang/String"))) (by decide) (by decide)))
  have E_g := E_g.wr W_2
  have E_t1 := E_t1.wr W_2
  have F_subjects_t1 := F_subjects_t1.other W_2 (Or.inl (Ne.symm ne_g_t1))
  have F_predicates_t1 := F_predicates_t1.other W_2 (Or.inl (Ne.symm ne_g_t1))
  have F_objects_t1 := F_objects_t1.other W_2 (Or.inl (Ne.symm ne_g_t1))
  have F_firstGraphs_t1 := F_firstGraphs_t1.other W_2 (Or.inl (Ne.symm ne_g_t1))
  have F_otherGraphs_t1 := F_otherGraphs_t1.other W_2 (Or.inl (Ne.symm ne_g_t1))
  have F_size_t1 := F_size_t1.other W_2 (Or.inl (Ne.symm ne_g_t1))
  have E_s1 := E_s1.wr W_2
  have F_map_s1 := F_map_s1.other W_2 (Or.inl (Ne.symm ne_g_s1))
  have E_m1 := E_m1.wr W_2
  have F_size_m1 := F_size_m1.other W_2 (Or.inl (Ne.symm ne_g_m1))
  have F_keySet_m1 := F_keySet_m1.other W_2 (Or.inl (Ne.symm ne_g_m1))
  have F_head_m1 := F_head_m1.other W_2 (Or.inl (Ne.symm ne_g_m1))
  have F_modCount_m1 := F_modCount_m1.other W_2 (Or.inl (Ne.symm ne_g_m1))
  have V_bs1 := V_bs1.other W_2 (Ne.symm ne_g_bs1)
  have V_bp1 := V_bp1.other W_2 (Ne.symm ne_g_bp1)
  have V_bo1 := V_bo1.other W_2 (Ne.symm ne_g_bo1)
  have V_bf1 := V_bf1.other W_2 (Ne.symm ne_g_bf1)
  have E_t2 := E_t2.wr W_2
  have F_subjects_t2 := F_subjects_t2.other W_2 (Or.inl (Ne.symm ne_g_t2))
  have F_predicates_t2 := F_predicates_t2.other W_2 (Or.inl (Ne.symm ne_g_t2))
  have F_objects_t2 := F_objects_t2.other W_2 (Or.inl (Ne.symm ne_g_t2))
  have F_firstGraphs_t2 := F_firstGraphs_t2.other W_2 (Or.inl (Ne.symm ne_g_t2))
  have F_otherGraphs_t2 := F_otherGraphs_t2.other W_2 (Or.inl (Ne.symm ne_g_t2))
  have F_size_t2 := F_size_t2.other W_2 (Or.inl (Ne.symm ne_g_t2))
  have E_s2 := E_s2.wr W_2
  have F_map_s2 := F_map_s2.other W_2 (Or.inl (Ne.symm ne_g_s2))
  have E_m2 := E_m2.wr W_2
  have F_size_m2 := F_size_m2.other W_2 (Or.inl (Ne.symm ne_g_m2))
  have F_keySet_m2 := F_keySet_m2.other W_2 (Or.inl (Ne.symm ne_g_m2))
  have F_head_m2 := F_head_m2.other W_2 (Or.inl (Ne.symm ne_g_m2))
  have F_modCount_m2 := F_modCount_m2.other W_2 (Or.inl (Ne.symm ne_g_m2))
  have V_bs2 := V_bs2.other W_2 (Ne.symm ne_g_bs2)
  have V_bp2 := V_bp2.other W_2 (Ne.symm ne_g_bp2)
  have V_bo2 := V_bo2.other W_2 (Ne.symm ne_g_bo2)
  have V_bf2 := V_bf2.other W_2 (Ne.symm ne_g_bf2)
  have N_2 := Fr.snoc X_2 N0 le_n0_g
  refine hst st_2 ?_
  show G (T_2.setTop (mkF mI 9 #[.val (.ref g), .val (.ref ir), .val (.ref pi), .val (.ref gl), .val (.ref t1), .val (.ref t2), .val (.ref lf), .val (.ref px)] []))
  refine o_aloadN hst X_2.here hx (hb hby drg_9) (pc' := 10) rfl rfl rfl ?_
  refine o_aloadN hst X_2.here hx (hb hby drg_10) (pc' := 11) rfl rfl rfl ?_
  obtain ⟨T_3, h_3, X_3, e_3, W_3, st_3⟩ := putF X_2 hx hZ hown (host := "") (Or.inl (own_w158 hw)) Via.refl e_2 F_predicateIris_g E_g (Or.inr ⟨(own_w159 hw), rfl, hnm⟩) (own_w132 hw) (ty := (.array (.object "java/lang/String"))) (by decide) rfl rfl (g := (mkF mI 11 #[.val (.ref g), .val (.ref ir), .val (.ref pi), .val (.ref gl), .val (.ref t1), .val (.ref t2), .val (.ref lf), .val (.ref px)] [(.ref pi), (.ref g)])) rfl rfl (hb hby drg_11)
  have Z0 := Nat.le_trans Z0 (Keep.of_wr W_3).1
  have Z1 := Nat.le_trans Z1 (Keep.of_wr W_3).1
  have K0 := K0.wr W_3 (Or.inl (List.mem_of_getElem? (i := 0) rfl))
  have F_predicateIris_g := F_predicateIris_g.same W_3
  have F_graphLabels_g := F_graphLabels_g.other W_3 (Or.inr (slot_ne (Or.inr (own_w161 hw)) (Or.inr (own_w159 hw)) (by decide) (t := (.array (.object "java/lang/String"))) (t' := (.array (.object "java/lang/String"))) (by decide) (by decide)))
  have F_linkSources_g := F_linkSources_g.other W_3 (Or.inr (slot_ne (Or.inr (own_w180 hw)) (Or.inr (own_w159 hw)) (by decide) (t := (.array .int)) (t' := (.array (.object "java/lang/String"))) (by decide) (by decide)))
  have F_linkPredicates_g := F_linkPredicates_g.other W_3 (Or.inr (slot_ne (Or.inr (own_w187 hw)) (Or.inr (own_w159 hw)) (by decide) (t := (.array .int)) (t' := (.array (.object "java/lang/String"))) (by decide) (by decide)))
  have F_linkTargets_g := F_linkTargets_g.other W_3 (Or.inr (slot_ne (Or.inr (own_w194 hw)) (Or.inr (own_w159 hw)) (by decide) (t := (.array .int)) (t' := (.array (.object "java/lang/String"))) (by decide) (by decide)))
  have F_linkMemberships_g := F_linkMemberships_g.other W_3 (Or.inr (slot_ne (Or.inr (own_w314 hw)) (Or.inr (own_w159 hw)) (by decide) (t := (.object own_MB)) (t' := (.array (.object "java/lang/String"))) (by decide) (by decide)))
  have F_literalSubjects_g := F_literalSubjects_g.other W_3 (Or.inr (slot_ne (Or.inr (own_w316 hw)) (Or.inr (own_w159 hw)) (by decide) (t := (.array .int)) (t' := (.array (.object "java/lang/String"))) (by decide) (by decide)))
  have F_literalPredicates_g := F_literalPredicates_g.other W_3 (Or.inr (slot_ne (Or.inr (own_w318 hw)) (Or.inr (own_w159 hw)) (by decide) (t := (.array .int)) (t' := (.array (.object "java/lang/String"))) (by decide) (by decide)))
  have F_literalMemberships_g := F_literalMemberships_g.other W_3 (Or.inr (slot_ne (Or.inr (own_w320 hw)) (Or.inr (own_w159 hw)) (by decide) (t := (.object own_MB)) (t' := (.array (.object "java/lang/String"))) (by decide) (by decide)))
  have F_literalObjects_g := F_literalObjects_g.other W_3 (Or.inr (slot_ne (Or.inr (own_w322 hw)) (Or.inr (own_w159 hw)) (by decide) (t := (.array .int)) (t' := (.array (.object "java/lang/String"))) (by decide) (by decide)))
  have F_lexicalForms_g := F_lexicalForms_g.other W_3 (Or.inr (slot_ne (Or.inr (own_w324 hw)) (Or.inr (own_w159 hw)) (by decide) (t := (.array (.object "java/lang/String"))) (t' := (.array (.object "java/lang/String"))) (by decide) (by decide)))
  have F_prefixes_g := F_prefixes_g.other W_3 (Or.inr (slot_ne (Or.inr (own_w326 hw)) (Or.inr (own_w159 hw)) (by decide) (t := (.object own_PX)) (t' := (.array (.object "java/lang/String"))) (by decide) (by decide)))
  have E_g := E_g.wr W_3
  have E_t1 := E_t1.wr W_3
  have F_subjects_t1 := F_subjects_t1.other W_3 (Or.inl (Ne.symm ne_g_t1))
  have F_predicates_t1 := F_predicates_t1.other W_3 (Or.inl (Ne.symm ne_g_t1))
  have F_objects_t1 := F_objects_t1.other W_3 (Or.inl (Ne.symm ne_g_t1))
  have F_firstGraphs_t1 := F_firstGraphs_t1.other W_3 (Or.inl (Ne.symm ne_g_t1))
  have F_otherGraphs_t1 := F_otherGraphs_t1.other W_3 (Or.inl (Ne.symm ne_g_t1))
  have F_size_t1 := F_size_t1.other W_3 (Or.inl (Ne.symm ne_g_t1))
  have E_s1 := E_s1.wr W_3
  have F_map_s1 := F_map_s1.other W_3 (Or.inl (Ne.symm ne_g_s1))
  have E_m1 := E_m1.wr W_3
  have F_size_m1 := F_size_m1.other W_3 (Or.inl (Ne.symm ne_g_m1))
  have F_keySet_m1 := F_keySet_m1.other W_3 (Or.inl (Ne.symm ne_g_m1))
  have F_head_m1 := F_head_m1.other W_3 (Or.inl (Ne.symm ne_g_m1))
  have F_modCount_m1 := F_modCount_m1.other W_3 (Or.inl (Ne.symm ne_g_m1))
  have V_bs1 := V_bs1.other W_3 (Ne.symm ne_g_bs1)
  have V_bp1 := V_bp1.other W_3 (Ne.symm ne_g_bp1)
  have V_bo1 := V_bo1.other W_3 (Ne.symm ne_g_bo1)
  have V_bf1 := V_bf1.other W_3 (Ne.symm ne_g_bf1)
  have E_t2 := E_t2.wr W_3
  have F_subjects_t2 := F_subjects_t2.other W_3 (Or.inl (Ne.symm ne_g_t2))
  have F_predicates_t2 := F_predicates_t2.other W_3 (Or.inl (Ne.symm ne_g_t2))
  have F_objects_t2 := F_objects_t2.other W_3 (Or.inl (Ne.symm ne_g_t2))
  have F_firstGraphs_t2 := F_firstGraphs_t2.other W_3 (Or.inl (Ne.symm ne_g_t2))
  have F_otherGraphs_t2 := F_otherGraphs_t2.other W_3 (Or.inl (Ne.symm ne_g_t2))
  have F_size_t2 := F_size_t2.other W_3 (Or.inl (Ne.symm ne_g_t2))
  have E_s2 := E_s2.wr W_3
  have F_map_s2 := F_map_s2.other W_3 (Or.inl (Ne.symm ne_g_s2))
  have E_m2 := E_m2.wr W_3
  have F_size_m2 := F_size_m2.other W_3 (Or.inl (Ne.symm ne_g_m2))
  have F_keySet_m2 := F_keySet_m2.other W_3 (Or.inl (Ne.symm ne_g_m2))
  have F_head_m2 := F_head_m2.other W_3 (Or.inl (Ne.symm ne_g_m2))
  have F_modCount_m2 := F_modCount_m2.other W_3 (Or.inl (Ne.symm ne_g_m2))
  have V_bs2 := V_bs2.other W_3 (Ne.symm ne_g_bs2)
  have V_bp2 := V_bp2.other W_3 (Ne.symm ne_g_bp2)
  have V_bo2 := V_bo2.other W_3 (Ne.symm ne_g_bo2)
  have V_bf2 := V_bf2.other W_3 (Ne.symm ne_g_bf2)
  have N_3 := Fr.snoc X_3 N_2 le_n0_g
  refine hst st_3 ?_
  show G (T_3.setTop (mkF mI 14 #[.val (.ref g), .val (.ref ir), .val (.ref pi), .val (.ref gl), .val (.ref t1), .val (.ref t2), .val (.ref lf), .val (.ref px)] []))
  refine o_aloadN hst X_3.here hx (hb hby drg_14) (pc' := 15) rfl rfl rfl ?_
  refine o_aloadN hst X_3.here hx (hb hby drg_15) (pc' := 16) rfl rfl rfl ?_
  obtain ⟨T_4, h_4, X_4, e_4, W_4, st_4⟩ := putF X_3 hx hZ hown (host := "") (Or.inl (own_w160 hw)) Via.refl e_3 F_graphLabels_g E_g (Or.inr ⟨(own_w161 hw), rfl, hnm⟩) (own_w132 hw) (ty := (.array (.object "java/lang/String"))) (by decide) rfl rfl (g := (mkF mI 16 #[.val (.ref g), .val (.ref ir), .val (.ref pi), .val (.ref gl), .val (.ref t1), .val (.ref t2), .val (.ref lf), .val (.ref px)] [(.ref gl), (.ref g)])) rfl rfl (hb hby drg_16)
  have Z0 := Nat.le_trans Z0 (Keep.of_wr W_4).1
  have Z1 := Nat.le_trans Z1 (Keep.of_wr W_4).1
  have K0 := K0.wr W_4 (Or.inl (List.mem_of_getElem? (i := 0) rfl))
  have F_graphLabels_g := F_graphLabels_g.same W_4
  have F_linkSources_g := F_linkSources_g.other W_4 (Or.inr (slot_ne (Or.inr (own_w180 hw)) (Or.inr (own_w161 hw)) (by decide) (t := (.array .int)) (t' := (.array (.object "java/lang/String"))) (by decide) (by decide)))
  have F_linkPredicates_g := F_linkPredicates_g.other W_4 (Or.inr (slot_ne (Or.inr (own_w187 hw)) (Or.inr (own_w161 hw)) (by decide) (t := (.array .int)) (t' := (.array (.object "java/lang/String"))) (by decide) (by decide)))
  have F_linkTargets_g := F_linkTargets_g.other W_4 (Or.inr (slot_ne (Or.inr (own_w194 hw)) (Or.inr (own_w161 hw)) (by decide) (t := (.array .int)) (t' := (.array (.object "java/lang/String"))) (by decide) (by decide)))
  have F_linkMemberships_g := F_linkMemberships_g.other W_4 (Or.inr (slot_ne (Or.inr (own_w314 hw)) (Or.inr (own_w161 hw)) (by decide) (t := (.object own_MB)) (t' := (.array (.object "java/lang/String"))) (by decide) (by decide)))
  have F_literalSubjects_g := F_literalSubjects_g.other W_4 (Or.inr (slot_ne (Or.inr (own_w316 hw)) (Or.inr (own_w161 hw)) (by decide) (t := (.array .int)) (t' := (.array (.object "java/lang/String"))) (by decide) (by decide)))
  have F_literalPredicates_g := F_literalPredicates_g.other W_4 (Or.inr (slot_ne (Or.inr (own_w318 hw)) (Or.inr (own_w161 hw)) (by decide) (t := (.array .int)) (t' := (.array (.object "java/lang/String"))) (by decide) (by decide)))
  have F_literalMemberships_g := F_literalMemberships_g.other W_4 (Or.inr (slot_ne (Or.inr (own_w320 hw)) (Or.inr (own_w161 hw)) (by decide) (t := (.object own_MB)) (t' := (.array (.object "java/lang/String"))) (by decide) (by decide)))
  have F_literalObjects_g := F_literalObjects_g.other W_4 (Or.inr (slot_ne (Or.inr (own_w322 hw)) (Or.inr (own_w161 hw)) (by decide) (t := (.array .int)) (t' := (.array (.object "java/lang/String"))) (by decide) (by decide)))
  have F_lexicalForms_g := F_lexicalForms_g.other W_4 (Or.inr (slot_ne (Or.inr (own_w324 hw)) (Or.inr (own_w161 hw)) (by decide) (t := (.array (.object "java/lang/String"))) (t' := (.array (.object "java/lang/String"))) (by decide) (by decide)))
  have F_prefixes_g := F_prefixes_g.other W_4 (Or.inr (slot_ne (Or.inr (own_w326 hw)) (Or.inr (own_w161 hw)) (by decide) (t := (.object own_PX)) (t' := (.array (.object "java/lang/String"))) (by decide) (by decide)))
  have E_g := E_g.wr W_4
  have E_t1 := E_t1.wr W_4
  have F_subjects_t1 := F_subjects_t1.other W_4 (Or.inl (Ne.symm ne_g_t1))
  have F_predicates_t1 := F_predicates_t1.other W_4 (Or.inl (Ne.symm ne_g_t1))
  have F_objects_t1 := F_objects_t1.other W_4 (Or.inl (Ne.symm ne_g_t1))
  have F_firstGraphs_t1 := F_firstGraphs_t1.other W_4 (Or.inl (Ne.symm ne_g_t1))
  have F_otherGraphs_t1 := F_otherGraphs_t1.other W_4 (Or.inl (Ne.symm ne_g_t1))
  have F_size_t1 := F_size_t1.other W_4 (Or.inl (Ne.symm ne_g_t1))
  have E_s1 := E_s1.wr W_4
  have F_map_s1 := F_map_s1.other W_4 (Or.inl (Ne.symm ne_g_s1))
  have E_m1 := E_m1.wr W_4
  have F_size_m1 := F_size_m1.other W_4 (Or.inl (Ne.symm ne_g_m1))
  have F_keySet_m1 := F_keySet_m1.other W_4 (Or.inl (Ne.symm ne_g_m1))
  have F_head_m1 := F_head_m1.other W_4 (Or.inl (Ne.symm ne_g_m1))
  have F_modCount_m1 := F_modCount_m1.other W_4 (Or.inl (Ne.symm ne_g_m1))
  have V_bs1 := V_bs1.other W_4 (Ne.symm ne_g_bs1)
  have V_bp1 := V_bp1.other W_4 (Ne.symm ne_g_bp1)
  have V_bo1 := V_bo1.other W_4 (Ne.symm ne_g_bo1)
  have V_bf1 := V_bf1.other W_4 (Ne.symm ne_g_bf1)
  have E_t2 := E_t2.wr W_4
  have F_subjects_t2 := F_subjects_t2.other W_4 (Or.inl (Ne.symm ne_g_t2))
  have F_predicates_t2 := F_predicates_t2.other W_4 (Or.inl (Ne.symm ne_g_t2))
  have F_objects_t2 := F_objects_t2.other W_4 (Or.inl (Ne.symm ne_g_t2))
  have F_firstGraphs_t2 := F_firstGraphs_t2.other W_4 (Or.inl (Ne.symm ne_g_t2))
  have F_otherGraphs_t2 := F_otherGraphs_t2.other W_4 (Or.inl (Ne.symm ne_g_t2))
  have F_size_t2 := F_size_t2.other W_4 (Or.inl (Ne.symm ne_g_t2))
  have E_s2 := E_s2.wr W_4
  have F_map_s2 := F_map_s2.other W_4 (Or.inl (Ne.symm ne_g_s2))
  have E_m2 := E_m2.wr W_4
  have F_size_m2 := F_size_m2.other W_4 (Or.inl (Ne.symm ne_g_m2))
  have F_keySet_m2 := F_keySet_m2.other W_4 (Or.inl (Ne.symm ne_g_m2))
  have F_head_m2 := F_head_m2.other W_4 (Or.inl (Ne.symm ne_g_m2))
  have F_modCount_m2 := F_modCount_m2.other W_4 (Or.inl (Ne.symm ne_g_m2))
  have V_bs2 := V_bs2.other W_4 (Ne.symm ne_g_bs2)
  have V_bp2 := V_bp2.other W_4 (Ne.symm ne_g_bp2)
  have V_bo2 := V_bo2.other W_4 (Ne.symm ne_g_bo2)
  have V_bf2 := V_bf2.other W_4 (Ne.symm ne_g_bf2)
  have N_4 := Fr.snoc X_4 N_3 le_n0_g
  refine hst st_4 ?_
  show G (T_4.setTop (mkF mI 19 #[.val (.ref g), .val (.ref ir), .val (.ref pi), .val (.ref gl), .val (.ref t1), .val (.ref t2), .val (.ref lf), .val (.ref px)] []))
  refine o_aloadN hst X_4.here hx (hb hby drg_19) (pc' := 20) rfl rfl rfl ?_
  refine o_aload hst X_4.here hx (hb hby drg_20) (pc' := 22) rfl rfl rfl ?_
  obtain ⟨cq_5, kq_5, q_5a, q_5b, q_5c⟩ := isOf hZ e_4 E_t1
  obtain ⟨_, _, ⟨T_5, L_5, k_5, n_5⟩, -, X_5, ⟨Lc_5, hQ_5, l_5, y_5, z_5⟩, st_5⟩ := X_4.virtualBack hx (y := (⟨own_TT, "subjects", "()[I"⟩ : MethodName)) (z := (⟨own_TT, "subjects", "()[I"⟩ : MethodName)) hown (mvT hZ (own_w162 hw)) (mvT hZ (own_w163 hw)) (notFace_of_selects (args := #[]) (mvT hZ (own_w165 hw))) (mvT hZ (own_w165 hw)) (mvT hZ (own_w164 hw)) (by decide) (backOf (W := 1) (rmgbs0 lL Z a0 hw [] t1 bs1 k_bs1 h_4 n0 Z0 F_subjects_t1 F_size_t1 V_bs1) hZ (own_w166 hw) (own_w31 hw) (by decide) (by decide)) q_5a q_5c (g := (mkF mI 22 #[.val (.ref g), .val (.ref ir), .val (.ref pi), .val (.ref gl), .val (.ref t1), .val (.ref t2), .val (.ref lf), .val (.ref px)] [(.ref t1), (.ref g)])) rfl (by rw [hml]; rfl) (Steps.refl _) (argsL := []) (rest := [(.ref g)]) (lenOf pd_17 rfl) rfl (by show 2 * 0 + _ ≤ _; exact Nat.le_of_eq rfl) (hb hby drg_22) (fun _ _ => ⟨rfl, e_4, (by decide : 0 + 1 ≤ _), (by decide : 0 + 0 ≤ _)⟩)
  dsimp only [Pt.U, Pt.locs, Pt.cells, Pt.slots] at X_5 l_5 y_5 z_5 st_5 hQ_5
  subst l_5 y_5 z_5
  obtain ⟨c_5, kc_5, rfl, N_5q, K_5, le_c_5, V_c_5⟩ := hQ_5
  have Z0 := Nat.le_trans Z0 K_5.1
  have Z1 := Nat.le_trans Z1 K_5.1
  have K0 := K0.trans K_5 all0
  have F_linkSources_g := F_linkSources_g.keep K_5 nin0
  have F_linkPredicates_g := F_linkPredicates_g.keep K_5 nin0
  have F_linkTargets_g := F_linkTargets_g.keep K_5 nin0
  have F_linkMemberships_g := F_linkMemberships_g.keep K_5 nin0
  have F_literalSubjects_g := F_literalSubjects_g.keep K_5 nin0
  have F_literalPredicates_g := F_literalPredicates_g.keep K_5 nin0
  have F_literalMemberships_g := F_literalMemberships_g.keep K_5 nin0
  have F_literalObjects_g := F_literalObjects_g.keep K_5 nin0
  have F_lexicalForms_g := F_lexicalForms_g.keep K_5 nin0
  have F_prefixes_g := F_prefixes_g.keep K_5 nin0
  have E_g := E_g.keep K_5
  have E_t1 := E_t1.keep K_5
  have F_subjects_t1 := F_subjects_t1.keep K_5 nin0
  have F_predicates_t1 := F_predicates_t1.keep K_5 nin0
  have F_objects_t1 := F_objects_t1.keep K_5 nin0
  have F_firstGraphs_t1 := F_firstGraphs_t1.keep K_5 nin0
  have F_otherGraphs_t1 := F_otherGraphs_t1.keep K_5 nin0
  have F_size_t1 := F_size_t1.keep K_5 nin0
  have E_s1 := E_s1.keep K_5
  have F_map_s1 := F_map_s1.keep K_5 nin0
  have E_m1 := E_m1.keep K_5
  have F_size_m1 := F_size_m1.keep K_5 nin0
  have F_keySet_m1 := F_keySet_m1.keep K_5 nin0
  have F_head_m1 := F_head_m1.keep K_5 nin0
  have F_modCount_m1 := F_modCount_m1.keep K_5 nin0
  have V_bs1 := V_bs1.keep K_5 nin0
  have V_bp1 := V_bp1.keep K_5 nin0
  have V_bo1 := V_bo1.keep K_5 nin0
  have V_bf1 := V_bf1.keep K_5 nin0
  have E_t2 := E_t2.keep K_5
  have F_subjects_t2 := F_subjects_t2.keep K_5 nin0
  have F_predicates_t2 := F_predicates_t2.keep K_5 nin0
  have F_objects_t2 := F_objects_t2.keep K_5 nin0
  have F_firstGraphs_t2 := F_firstGraphs_t2.keep K_5 nin0
  have F_otherGraphs_t2 := F_otherGraphs_t2.keep K_5 nin0
  have F_size_t2 := F_size_t2.keep K_5 nin0
  have E_s2 := E_s2.keep K_5
  have F_map_s2 := F_map_s2.keep K_5 nin0
  have E_m2 := E_m2.keep K_5
  have F_size_m2 := F_size_m2.keep K_5 nin0
  have F_keySet_m2 := F_keySet_m2.keep K_5 nin0
  have F_head_m2 := F_head_m2.keep K_5 nin0
  have F_modCount_m2 := F_modCount_m2.keep K_5 nin0
  have V_bs2 := V_bs2.keep K_5 nin0
  have V_bp2 := V_bp2.keep K_5 nin0
  have V_bo2 := V_bo2.keep K_5 nin0
  have V_bf2 := V_bf2.keep K_5 nin0
  have N_5 := Fr.app N_4 N_5q
  refine hst (fun _ kt => st_5.trans kt) ?_
  show G (T_5.setTop (mkF mI 25 #[.val (.ref g), .val (.ref ir), .val (.ref pi), .val (.ref gl), .val (.ref t1), .val (.ref t2), .val (.ref lf), .val (.ref px)] [(.ref c_5), (.ref g)]))
  obtain ⟨T_6, h_6, X_6, e_6, W_6, st_6⟩ := putF X_5 hx hZ hown (host := "") (Or.inl (own_w179 hw)) Via.refl rfl F_linkSources_g E_g (Or.inr ⟨(own_w180 hw), rfl, hnm⟩) (own_w132 hw) (ty := (.array .int)) (by decide) rfl rfl (g := (mkF mI 25 #[.val (.ref g), .val (.ref ir), .val (.ref pi), .val (.ref gl), .val (.ref t1), .val (.ref t2), .val (.ref lf), .val (.ref px)] [(.ref c_5), (.ref g)])) rfl rfl (hb hby drg_25)
  have Z0 := Nat.le_trans Z0 (Keep.of_wr W_6).1
  have Z1 := Nat.le_trans Z1 (Keep.of_wr W_6).1
  have K0 := K0.wr W_6 (Or.inl (List.mem_of_getElem? (i := 0) rfl))
  have F_linkSources_g := F_linkSources_g.same W_6
  have F_linkPredicates_g := F_linkPredicates_g.other W_6 (Or.inr (slot_ne (Or.inr (own_w187 hw)) (Or.inr (own_w180 hw)) (by decide) (t := (.array .int)) (t' := (.array .int)) (by decide) (by decide)))
  have F_linkTargets_g := F_linkTargets_g.other W_6 (Or.inr (slot_ne (Or.inr (own_w194 hw)) (Or.inr (own_w180 hw)) (by decide) (t := (.array .int)) (t' := (.array .int)) (by decide) (by decide)))
  have F_linkMemberships_g := F_linkMemberships_g.other W_6 (Or.inr (slot_ne (Or.inr (own_w314 hw)) (Or.inr (own_w180 hw)) (by decide) (t := (.object own_MB)) (t' := (.array .int)) (by decide) (by decide)))
  have F_literalSubjects_g := F_literalSubjects_g.other W_6 (Or.inr (slot_ne (Or.inr (own_w316 hw)) (Or.inr (own_w180 hw)) (by decide) (t := (.array .int)) (t' := (.array .int)) (by decide) (by decide)))
  have F_literalPredicates_g := F_literalPredicates_g.other W_6 (Or.inr (slot_ne (Or.inr (own_w318 hw)) (Or.inr (own_w180 hw)) (by decide) (t := (.array .int)) (t' := (.array .int)) (by decide) (by decide)))
  have F_literalMemberships_g := F_literalMemberships_g.other W_6 (Or.inr (slot_ne (Or.inr (own_w320 hw)) (Or.inr (own_w180 hw)) (by decide) (t := (.object own_MB)) (t' := (.array .int)) (by decide) (by decide)))
  have F_literalObjects_g := F_literalObjects_g.other W_6 (Or.inr (slot_ne (Or.inr (own_w322 hw)) (Or.inr (own_w180 hw)) (by decide) (t := (.array .int)) (t' := (.array .int)) (by decide) (by decide)))
  have F_lexicalForms_g := F_lexicalForms_g.other W_6 (Or.inr (slot_ne (Or.inr (own_w324 hw)) (Or.inr (own_w180 hw)) (by decide) (t := (.array (.object "java/lang/String"))) (t' := (.array .int)) (by decide) (by decide)))
  have F_prefixes_g := F_prefixes_g.other W_6 (Or.inr (slot_ne (Or.inr (own_w326 hw)) (Or.inr (own_w180 hw)) (by decide) (t := (.object own_PX)) (t' := (.array .int)) (by decide) (by decide)))
  have E_g := E_g.wr W_6
  have E_t1 := E_t1.wr W_6
  have F_subjects_t1 := F_subjects_t1.other W_6 (Or.inl (Ne.symm ne_g_t1))
  have F_predicates_t1 := F_predicates_t1.other W_6 (Or.inl (Ne.symm ne_g_t1))
  have F_objects_t1 := F_objects_t1.other W_6 (Or.inl (Ne.symm ne_g_t1))
  have F_firstGraphs_t1 := F_firstGraphs_t1.other W_6 (Or.inl (Ne.symm ne_g_t1))
  have F_otherGraphs_t1 := F_otherGraphs_t1.other W_6 (Or.inl (Ne.symm ne_g_t1))
  have F_size_t1 := F_size_t1.other W_6 (Or.inl (Ne.symm ne_g_t1))
  have E_s1 := E_s1.wr W_6
  have F_map_s1 := F_map_s1.other W_6 (Or.inl (Ne.symm ne_g_s1))
  have E_m1 := E_m1.wr W_6
  have F_size_m1 := F_size_m1.other W_6 (Or.inl (Ne.symm ne_g_m1))
  have F_keySet_m1 := F_keySet_m1.other W_6 (Or.inl (Ne.symm ne_g_m1))
  have F_head_m1 := F_head_m1.other W_6 (Or.inl (Ne.symm ne_g_m1))
  have F_modCount_m1 := F_modCount_m1.other W_6 (Or.inl (Ne.symm ne_g_m1))
  have V_bs1 := V_bs1.other W_6 (Ne.symm ne_g_bs1)
  have V_bp1 := V_bp1.other W_6 (Ne.symm ne_g_bp1)
  have V_bo1 := V_bo1.other W_6 (Ne.symm ne_g_bo1)
  have V_bf1 := V_bf1.other W_6 (Ne.symm ne_g_bf1)
  have E_t2 := E_t2.wr W_6
  have F_subjects_t2 := F_subjects_t2.other W_6 (Or.inl (Ne.symm ne_g_t2))
  have F_predicates_t2 := F_predicates_t2.other W_6 (Or.inl (Ne.symm ne_g_t2))
  have F_objects_t2 := F_objects_t2.other W_6 (Or.inl (Ne.symm ne_g_t2))
  have F_firstGraphs_t2 := F_firstGraphs_t2.other W_6 (Or.inl (Ne.symm ne_g_t2))
  have F_otherGraphs_t2 := F_otherGraphs_t2.other W_6 (Or.inl (Ne.symm ne_g_t2))
  have F_size_t2 := F_size_t2.other W_6 (Or.inl (Ne.symm ne_g_t2))
  have E_s2 := E_s2.wr W_6
  have F_map_s2 := F_map_s2.other W_6 (Or.inl (Ne.symm ne_g_s2))
  have E_m2 := E_m2.wr W_6
  have F_size_m2 := F_size_m2.other W_6 (Or.inl (Ne.symm ne_g_m2))
  have F_keySet_m2 := F_keySet_m2.other W_6 (Or.inl (Ne.symm ne_g_m2))
  have F_head_m2 := F_head_m2.other W_6 (Or.inl (Ne.symm ne_g_m2))
  have F_modCount_m2 := F_modCount_m2.other W_6 (Or.inl (Ne.symm ne_g_m2))
  have V_bs2 := V_bs2.other W_6 (Ne.symm ne_g_bs2)
  have V_bp2 := V_bp2.other W_6 (Ne.symm ne_g_bp2)
  have V_bo2 := V_bo2.other W_6 (Ne.symm ne_g_bo2)
  have V_bf2 := V_bf2.other W_6 (Ne.symm ne_g_bf2)
  have N_6 := Fr.snoc X_6 N_5 le_n0_g
  refine hst st_6 ?_
  show G (T_6.setTop (mkF mI 28 #[.val (.ref g), .val (.ref ir), .val (.ref pi), .val (.ref gl), .val (.ref t1), .val (.ref t2), .val (.ref lf), .val (.ref px)] []))
  refine o_aloadN hst X_6.here hx (hb hby drg_28) (pc' := 29) rfl rfl rfl ?_
  refine o_aload hst X_6.here hx (hb hby drg_29) (pc' := 31) rfl rfl rfl ?_
  obtain ⟨cq_7, kq_7, q_7a, q_7b, q_7c⟩ := isOf hZ e_6 E_t1
  obtain ⟨_, _, ⟨T_7, L_7, k_7, n_7⟩, -, X_7, ⟨Lc_7, hQ_7, l_7, y_7, z_7⟩, st_7⟩ := X_6.virtualBack hx (y := (⟨own_TT, "predicates", "()[I"⟩ : MethodName)) (z := (⟨own_TT, "predicates", "()[I"⟩ : MethodName)) hown (mvT hZ (own_w181 hw)) (mvT hZ (own_w182 hw)) (notFace_of_selects (args := #[]) (mvT hZ (own_w184 hw))) (mvT hZ (own_w184 hw)) (mvT hZ (own_w183 hw)) (by decide) (backOf (W := 1) (rmgbp0 lL Z a0 hw [] t1 bp1 k_bp1 h_6 n0 Z0 F_predicates_t1 F_size_t1 V_bp1) hZ (own_w185 hw) (own_w31 hw) (by decide) (by decide)) q_7a q_7c (g := (mkF mI 31 #[.val (.ref g), .val (.ref ir), .val (.ref pi), .val (.ref gl), .val (.ref t1), .val (.ref t2), .val (.ref lf), .val (.ref px)] [(.ref t1), (.ref g)])) rfl (by rw [hml]; rfl) (Steps.refl _) (argsL := []) (rest := [(.ref g)]) (lenOf pd_17 rfl) rfl (by show 2 * 0 + _ ≤ _; exact Nat.le_of_eq rfl) (hb hby drg_31) (fun _ _ => ⟨rfl, e_6, (by decide : 1 + 1 ≤ _), (by decide : 0 + 0 ≤ _)⟩)
  dsimp only [Pt.U, Pt.locs, Pt.cells, Pt.slots] at X_7 l_7 y_7 z_7 st_7 hQ_7
  subst l_7 y_7 z_7
  obtain ⟨c_7, kc_7, rfl, N_7q, K_7, le_c_7, V_c_7⟩ := hQ_7
  have Z0 := Nat.le_trans Z0 K_7.1
  have Z1 := Nat.le_trans Z1 K_7.1
  have K0 := K0.trans K_7 all0
  have F_linkPredicates_g := F_linkPredicates_g.keep K_7 nin0
  have F_linkTargets_g := F_linkTargets_g.keep K_7 nin0
  have F_linkMemberships_g := F_linkMemberships_g.keep K_7 nin0
  have F_literalSubjects_g := F_literalSubjects_g.keep K_7 nin0
  have F_literalPredicates_g := F_literalPredicates_g.keep K_7 nin0
  have F_literalMemberships_g := F_literalMemberships_g.keep K_7 nin0
  have F_literalObjects_g := F_literalObjects_g.keep K_7 nin0
  have F_lexicalForms_g := F_lexicalForms_g.keep K_7 nin0
  have F_prefixes_g := F_prefixes_g.keep K_7 nin0
  have E_g := E_g.keep K_7
  have E_t1 := E_t1.keep K_7
  have F_subjects_t1 := F_subjects_t1.keep K_7 nin0
  have F_predicates_t1 := F_predicates_t1.keep K_7 nin0
  have F_objects_t1 := F_objects_t1.keep K_7 nin0
  have F_firstGraphs_t1 := F_firstGraphs_t1.keep K_7 nin0
  have F_otherGraphs_t1 := F_otherGraphs_t1.keep K_7 nin0
  have F_size_t1 := F_size_t1.keep K_7 nin0
  have E_s1 := E_s1.keep K_7
  have F_map_s1 := F_map_s1.keep K_7 nin0
  have E_m1 := E_m1.keep K_7
  have F_size_m1 := F_size_m1.keep K_7 nin0
  have F_keySet_m1 := F_keySet_m1.keep K_7 nin0
  have F_head_m1 := F_head_m1.keep K_7 nin0
  have F_modCount_m1 := F_modCount_m1.keep K_7 nin0
  have V_bs1 := V_bs1.keep K_7 nin0
  have V_bp1 := V_bp1.keep K_7 nin0
  have V_bo1 := V_bo1.keep K_7 nin0
  have V_bf1 := V_bf1.keep K_7 nin0
  have E_t2 := E_t2.keep K_7
  have F_subjects_t2 := F_subjects_t2.keep K_7 nin0
  have F_predicates_t2 := F_predicates_t2.keep K_7 nin0
  have F_objects_t2 := F_objects_t2.keep K_7 nin0
  have F_firstGraphs_t2 := F_firstGraphs_t2.keep K_7 nin0
  have F_otherGraphs_t2 := F_otherGraphs_t2.keep K_7 nin0
  have F_size_t2 := F_size_t2.keep K_7 nin0
  have E_s2 := E_s2.keep K_7
  have F_map_s2 := F_map_s2.keep K_7 nin0
  have E_m2 := E_m2.keep K_7
  have F_size_m2 := F_size_m2.keep K_7 nin0
  have F_keySet_m2 := F_keySet_m2.keep K_7 nin0
  have F_head_m2 := F_head_m2.keep K_7 nin0
  have F_modCount_m2 := F_modCount_m2.keep K_7 nin0
  have V_bs2 := V_bs2.keep K_7 nin0
  have V_bp2 := V_bp2.keep K_7 nin0
  have V_bo2 := V_bo2.keep K_7 nin0
  have V_bf2 := V_bf2.keep K_7 nin0
  have N_7 := Fr.app N_6 N_7q
  refine hst (fun _ kt => st_7.trans kt) ?_
  show G (T_7.setTop (mkF mI 34 #[.val (.ref g), .val (.ref ir), .val (.ref pi), .val (.ref gl), .val (.ref t1), .val (.ref t2), .val (.ref lf), .val (.ref px)] [(.ref c_7), (.ref g)]))
  obtain ⟨T_8, h_8, X_8, e_8, W_8, st_8⟩ := putF X_7 hx hZ hown (host := "") (Or.inl (own_w186 hw)) Via.refl rfl F_linkPredicates_g E_g (Or.inr ⟨(own_w187 hw), rfl, hnm⟩) (own_w132 hw) (ty := (.array .int)) (by decide) rfl rfl (g := (mkF mI 34 #[.val (.ref g), .val (.ref ir), .val (.ref pi), .val (.ref gl), .val (.ref t1), .val (.ref t2), .val (.ref lf), .val (.ref px)] [(.ref c_7), (.ref g)])) rfl rfl (hb hby drg_34)
  have Z0 := Nat.le_trans Z0 (Keep.of_wr W_8).1
  have Z1 := Nat.le_trans Z1 (Keep.of_wr W_8).1
  have K0 := K0.wr W_8 (Or.inl (List.mem_of_getElem? (i := 0) rfl))
  have F_linkPredicates_g := F_linkPredicates_g.same W_8
  have F_linkTargets_g := F_linkTargets_g.other W_8 (Or.inr (slot_ne (Or.inr (own_w194 hw)) (Or.inr (own_w187 hw)) (by decide) (t := (.array .int)) (t' := (.array .int)) (by decide) (by decide)))
  have F_linkMemberships_g := F_linkMemberships_g.other W_8 (Or.inr (slot_ne (Or.inr (own_w314 hw)) (Or.inr (own_w187 hw)) (by decide) (t := (.object own_MB)) (t' := (.array .int)) (by decide) (by decide)))
  have F_literalSubjects_g := F_literalSubjects_g.other W_8 (Or.inr (slot_ne (Or.inr (own_w316 hw)) (Or.inr (own_w187 hw)) (by decide) (t := (.array .int)) (t' := (.array .int)) (by decide) (by decide)))
  have F_literalPredicates_g := F_literalPredicates_g.other W_8 (Or.inr (slot_ne (Or.inr (own_w318 hw)) (Or.inr (own_w187 hw)) (by decide) (t := (.array .int)) (t' := (.array .int)) (by decide) (by decide)))
  have F_literalMemberships_g := F_literalMemberships_g.other W_8 (Or.inr (slot_ne (Or.inr (own_w320 hw)) (Or.inr (own_w187 hw)) (by decide) (t := (.object own_MB)) (t' := (.array .int)) (by decide) (by decide)))
  have F_literalObjects_g := F_literalObjects_g.other W_8 (Or.inr (slot_ne (Or.inr (own_w322 hw)) (Or.inr (own_w187 hw)) (by decide) (t := (.array .int)) (t' := (.array .int)) (by decide) (by decide)))
  have F_lexicalForms_g := F_lexicalForms_g.other W_8 (Or.inr (slot_ne (Or.inr (own_w324 hw)) (Or.inr (own_w187 hw)) (by decide) (t := (.array (.object "java/lang/String"))) (t' := (.array .int)) (by decide) (by decide)))
  have F_prefixes_g := F_prefixes_g.other W_8 (Or.inr (slot_ne (Or.inr (own_w326 hw)) (Or.inr (own_w187 hw)) (by decide) (t := (.object own_PX)) (t' := (.array .int)) (by decide) (by decide)))
  have E_g := E_g.wr W_8
  have E_t1 := E_t1.wr W_8
  have F_subjects_t1 := F_subjects_t1.other W_8 (Or.inl (Ne.symm ne_g_t1))
  have F_predicates_t1 := F_predicates_t1.other W_8 (Or.inl (Ne.symm ne_g_t1))
  have F_objects_t1 := F_objects_t1.other W_8 (Or.inl (Ne.symm ne_g_t1))
  have F_firstGraphs_t1 := F_firstGraphs_t1.other W_8 (Or.inl (Ne.symm ne_g_t1))
  have F_otherGraphs_t1 := F_otherGraphs_t1.other W_8 (Or.inl (Ne.symm ne_g_t1))
  have F_size_t1 := F_size_t1.other W_8 (Or.inl (Ne.symm ne_g_t1))
  have E_s1 := E_s1.wr W_8
  have F_map_s1 := F_map_s1.other W_8 (Or.inl (Ne.symm ne_g_s1))
  have E_m1 := E_m1.wr W_8
  have F_size_m1 := F_size_m1.other W_8 (Or.inl (Ne.symm ne_g_m1))
  have F_keySet_m1 := F_keySet_m1.other W_8 (Or.inl (Ne.symm ne_g_m1))
  have F_head_m1 := F_head_m1.other W_8 (Or.inl (Ne.symm ne_g_m1))
  have F_modCount_m1 := F_modCount_m1.other W_8 (Or.inl (Ne.symm ne_g_m1))
  have V_bs1 := V_bs1.other W_8 (Ne.symm ne_g_bs1)
  have V_bp1 := V_bp1.other W_8 (Ne.symm ne_g_bp1)
  have V_bo1 := V_bo1.other W_8 (Ne.symm ne_g_bo1)
  have V_bf1 := V_bf1.other W_8 (Ne.symm ne_g_bf1)
  have E_t2 := E_t2.wr W_8
  have F_subjects_t2 := F_subjects_t2.other W_8 (Or.inl (Ne.symm ne_g_t2))
  have F_predicates_t2 := F_predicates_t2.other W_8 (Or.inl (Ne.symm ne_g_t2))
  have F_objects_t2 := F_objects_t2.other W_8 (Or.inl (Ne.symm ne_g_t2))
  have F_firstGraphs_t2 := F_firstGraphs_t2.other W_8 (Or.inl (Ne.symm ne_g_t2))
  have F_otherGraphs_t2 := F_otherGraphs_t2.other W_8 (Or.inl (Ne.symm ne_g_t2))
  have F_size_t2 := F_size_t2.other W_8 (Or.inl (Ne.symm ne_g_t2))
  have E_s2 := E_s2.wr W_8
  have F_map_s2 := F_map_s2.other W_8 (Or.inl (Ne.symm ne_g_s2))
  have E_m2 := E_m2.wr W_8
  have F_size_m2 := F_size_m2.other W_8 (Or.inl (Ne.symm ne_g_m2))
  have F_keySet_m2 := F_keySet_m2.other W_8 (Or.inl (Ne.symm ne_g_m2))
  have F_head_m2 := F_head_m2.other W_8 (Or.inl (Ne.symm ne_g_m2))
  have F_modCount_m2 := F_modCount_m2.other W_8 (Or.inl (Ne.symm ne_g_m2))
  have V_bs2 := V_bs2.other W_8 (Ne.symm ne_g_bs2)
  have V_bp2 := V_bp2.other W_8 (Ne.symm ne_g_bp2)
  have V_bo2 := V_bo2.other W_8 (Ne.symm ne_g_bo2)
  have V_bf2 := V_bf2.other W_8 (Ne.symm ne_g_bf2)
  have N_8 := Fr.snoc X_8 N_7 le_n0_g
  refine hst st_8 ?_
  show G (T_8.setTop (mkF mI 37 #[.val (.ref g), .val (.ref ir), .val (.ref pi), .val (.ref gl), .val (.ref t1), .val (.ref t2), .val (.ref lf), .val (.ref px)] []))
  refine o_aloadN hst X_8.here hx (hb hby drg_37) (pc' := 38) rfl rfl rfl ?_
  refine o_aload hst X_8.here hx (hb hby drg_38) (pc' := 40) rfl rfl rfl ?_
  obtain ⟨cq_9, kq_9, q_9a, q_9b, q_9c⟩ := isOf hZ e_8 E_t1
  obtain ⟨_, _, ⟨T_9, L_9, k_9, n_9⟩, -, X_9, ⟨Lc_9, hQ_9, l_9, y_9, z_9⟩, st_9⟩ := X_8.virtualBack hx (y := (⟨own_TT, "objects", "()[I"⟩ : MethodName)) (z := (⟨own_TT, "objects", "()[I"⟩ : MethodName)) hown (mvT hZ (own_w188 hw)) (mvT hZ (own_w189 hw)) (notFace_of_selects (args := #[]) (mvT hZ (own_w191 hw))) (mvT hZ (own_w191 hw)) (mvT hZ (own_w190 hw)) (by decide) (backOf (W := 1) (rmgbo0 lL Z a0 hw [] t1 bo1 k_bo1 h_8 n0 Z0 F_objects_t1 F_size_t1 V_bo1) hZ (own_w192 hw) (own_w31 hw) (by decide) (by decide)) q_9a q_9c (g := (mkF mI 40 #[.val (.ref g), .val (.ref ir), .val (.ref pi), .val (.ref gl), .val (.ref t1), .val (.ref t2), .val (.ref lf), .val (.ref px)] [(.ref t1), (.ref g)])) rfl (by rw [hml]; rfl) (Steps.refl _) (argsL := []) (rest := [(.ref g)]) (lenOf pd_17 rfl) rfl (by show 2 * 0 + _ ≤ _; exact Nat.le_of_eq rfl) (hb hby drg_40) (fun _ _ => ⟨rfl, e_8, (by decide : 2 + 1 ≤ _), (by decide : 0 + 0 ≤ _)⟩)
  dsimp only [Pt.U, Pt.locs, Pt.cells, Pt.slots] at X_9 l_9 y_9 z_9 st_9 hQ_9
  subst l_9 y_9 z_9
  obtain ⟨c_9, kc_9, rfl, N_9q, K_9, le_c_9, V_c_9⟩ := hQ_9
  have Z0 := Nat.le_trans Z0 K_9.1
  have Z1 := Nat.le_trans Z1 K_9.1
  have K0 := K0.trans K_9 all0
  have F_linkTargets_g := F_linkTargets_g.keep K_9 nin0
  have F_linkMemberships_g := F_linkMemberships_g.keep K_9 nin0
  have F_literalSubjects_g := F_literalSubjects_g.keep K_9 nin0
  have F_literalPredicates_g := F_literalPredicates_g.keep K_9 nin0
  have F_literalMemberships_g := F_literalMemberships_g.keep K_9 nin0
  have F_literalObjects_g := F_literalObjects_g.keep K_9 nin0
  have F_lexicalForms_g := F_lexicalForms_g.keep K_9 nin0
  have F_prefixes_g := F_prefixes_g.keep K_9 nin0
  have E_g := E_g.keep K_9
  have E_t1 := E_t1.keep K_9
  have F_subjects_t1 := F_subjects_t1.keep K_9 nin0
  have F_predicates_t1 := F_predicates_t1.keep K_9 nin0
  have F_objects_t1 := F_objects_t1.keep K_9 nin0
  have F_firstGraphs_t1 := F_firstGraphs_t1.keep K_9 nin0
  have F_otherGraphs_t1 := F_otherGraphs_t1.keep K_9 nin0
  have F_size_t1 := F_size_t1.keep K_9 nin0
  have E_s1 := E_s1.keep K_9
  have F_map_s1 := F_map_s1.keep K_9 nin0
  have E_m1 := E_m1.keep K_9
  have F_size_m1 := F_size_m1.keep K_9 nin0
  have F_keySet_m1 := F_keySet_m1.keep K_9 nin0
  have F_head_m1 := F_head_m1.keep K_9 nin0
  have F_modCount_m1 := F_modCount_m1.keep K_9 nin0
  have V_bs1 := V_bs1.keep K_9 nin0
  have V_bp1 := V_bp1.keep K_9 nin0
  have V_bo1 := V_bo1.keep K_9 nin0
  have V_bf1 := V_bf1.keep K_9 nin0
  have E_t2 := E_t2.keep K_9
  have F_subjects_t2 := F_subjects_t2.keep K_9 nin0
  have F_predicates_t2 := F_predicates_t2.keep K_9 nin0
  have F_objects_t2 := F_objects_t2.keep K_9 nin0
  have F_firstGraphs_t2 := F_firstGraphs_t2.keep K_9 nin0
  have F_otherGraphs_t2 := F_otherGraphs_t2.keep K_9 nin0
  have F_size_t2 := F_size_t2.keep K_9 nin0
  have E_s2 := E_s2.keep K_9
  have F_map_s2 := F_map_s2.keep K_9 nin0
  have E_m2 := E_m2.keep K_9
  have F_size_m2 := F_size_m2.keep K_9 nin0
  have F_keySet_m2 := F_keySet_m2.keep K_9 nin0
  have F_head_m2 := F_head_m2.keep K_9 nin0
  have F_modCount_m2 := F_modCount_m2.keep K_9 nin0
  have V_bs2 := V_bs2.keep K_9 nin0
  have V_bp2 := V_bp2.keep K_9 nin0
  have V_bo2 := V_bo2.keep K_9 nin0
  have V_bf2 := V_bf2.keep K_9 nin0
  have N_9 := Fr.app N_8 N_9q
  refine hst (fun _ kt => st_9.trans kt) ?_
  show G (T_9.setTop (mkF mI 43 #[.val (.ref g), .val (.ref ir), .val (.ref pi), .val (.ref gl), .val (.ref t1), .val (.ref t2), .val (.ref lf), .val (.ref px)] [(.ref c_9), (.ref g)]))
  obtain ⟨T_10, h_10, X_10, e_10, W_10, st_10⟩ := putF X_9 hx hZ hown (host := "") (Or.inl (own_w193 hw)) Via.refl rfl F_linkTargets_g E_g (Or.inr ⟨(own_w194 hw), rfl, hnm⟩) (own_w132 hw) (ty := (.array .int)) (by decide) rfl rfl (g := (mkF mI 43 #[.val (.ref g), .val (.ref ir), .val (.ref pi), .val (.ref gl), .val (.ref t1), .val (.ref t2), .val (.ref lf), .val (.ref px)] [(.ref c_9), (.ref g)])) rfl rfl (hb hby drg_43)
  have Z0 := Nat.le_trans Z0 (Keep.of_wr W_10).1
  have Z1 := Nat.le_trans Z1 (Keep.of_wr W_10).1
  have K0 := K0.wr W_10 (Or.inl (List.mem_of_getElem? (i := 0) rfl))
  have F_linkTargets_g := F_linkTargets_g.same W_10
  have F_linkMemberships_g := F_linkMemberships_g.other W_10 (Or.inr (slot_ne (Or.inr (own_w314 hw)) (Or.inr (own_w194 hw)) (by decide) (t := (.object own_MB)) (t' := (.array .int)) (by decide) (by decide)))
  have F_literalSubjects_g := F_literalSubjects_g.other W_10 (Or.inr (slot_ne (Or.inr (own_w316 hw)) (Or.inr (own_w194 hw)) (by decide) (t := (.array .int)) (t' := (.array .int)) (by decide) (by decide)))
  have F_literalPredicates_g := F_literalPredicates_g.other W_10 (Or.inr (slot_ne (Or.inr (own_w318 hw)) (Or.inr (own_w194 hw)) (by decide) (t := (.array .int)) (t' := (.array .int)) (by decide) (by decide)))
  have F_literalMemberships_g := F_literalMemberships_g.other W_10 (Or.inr (slot_ne (Or.inr (own_w320 hw)) (Or.inr (own_w194 hw)) (by decide) (t := (.object own_MB)) (t' := (.array .int)) (by decide) (by decide)))
  have F_literalObjects_g := F_literalObjects_g.other W_10 (Or.inr (slot_ne (Or.inr (own_w322 hw)) (Or.inr (own_w194 hw)) (by decide) (t := (.array .int)) (t' := (.array .int)) (by decide) (by decide)))
  have F_lexicalForms_g := F_lexicalForms_g.other W_10 (Or.inr (slot_ne (Or.inr (own_w324 hw)) (Or.inr (own_w194 hw)) (by decide) (t := (.array (.object "java/lang/String"))) (t' := (.array .int)) (by decide) (by decide)))
  have F_prefixes_g := F_prefixes_g.other W_10 (Or.inr (slot_ne (Or.inr (own_w326 hw)) (Or.inr (own_w194 hw)) (by decide) (t := (.object own_PX)) (t' := (.array .int)) (by decide) (by decide)))
  have E_g := E_g.wr W_10
  have E_t1 := E_t1.wr W_10
  have F_subjects_t1 := F_subjects_t1.other W_10 (Or.inl (Ne.symm ne_g_t1))
  have F_predicates_t1 := F_predicates_t1.other W_10 (Or.inl (Ne.symm ne_g_t1))
  have F_objects_t1 := F_objects_t1.other W_10 (Or.inl (Ne.symm ne_g_t1))
  have F_firstGraphs_t1 := F_firstGraphs_t1.other W_10 (Or.inl (Ne.symm ne_g_t1))
  have F_otherGraphs_t1 := F_otherGraphs_t1.other W_10 (Or.inl (Ne.symm ne_g_t1))
  have F_size_t1 := F_size_t1.other W_10 (Or.inl (Ne.symm ne_g_t1))
  have E_s1 := E_s1.wr W_10
  have F_map_s1 := F_map_s1.other W_10 (Or.inl (Ne.symm ne_g_s1))
  have E_m1 := E_m1.wr W_10
  have F_size_m1 := F_size_m1.other W_10 (Or.inl (Ne.symm ne_g_m1))
  have F_keySet_m1 := F_keySet_m1.other W_10 (Or.inl (Ne.symm ne_g_m1))
  have F_head_m1 := F_head_m1.other W_10 (Or.inl (Ne.symm ne_g_m1))
  have F_modCount_m1 := F_modCount_m1.other W_10 (Or.inl (Ne.symm ne_g_m1))
  have V_bs1 := V_bs1.other W_10 (Ne.symm ne_g_bs1)
  have V_bp1 := V_bp1.other W_10 (Ne.symm ne_g_bp1)
  have V_bo1 := V_bo1.other W_10 (Ne.symm ne_g_bo1)
  have V_bf1 := V_bf1.other W_10 (Ne.symm ne_g_bf1)
  have E_t2 := E_t2.wr W_10
  have F_subjects_t2 := F_subjects_t2.other W_10 (Or.inl (Ne.symm ne_g_t2))
  have F_predicates_t2 := F_predicates_t2.other W_10 (Or.inl (Ne.symm ne_g_t2))
  have F_objects_t2 := F_objects_t2.other W_10 (Or.inl (Ne.symm ne_g_t2))
  have F_firstGraphs_t2 := F_firstGraphs_t2.other W_10 (Or.inl (Ne.symm ne_g_t2))
  have F_otherGraphs_t2 := F_otherGraphs_t2.other W_10 (Or.inl (Ne.symm ne_g_t2))
  have F_size_t2 := F_size_t2.other W_10 (Or.inl (Ne.symm ne_g_t2))
  have E_s2 := E_s2.wr W_10
  have F_map_s2 := F_map_s2.other W_10 (Or.inl (Ne.symm ne_g_s2))
  have E_m2 := E_m2.wr W_10
  have F_size_m2 := F_size_m2.other W_10 (Or.inl (Ne.symm ne_g_m2))
  have F_keySet_m2 := F_keySet_m2.other W_10 (Or.inl (Ne.symm ne_g_m2))
  have F_head_m2 := F_head_m2.other W_10 (Or.inl (Ne.symm ne_g_m2))
  have F_modCount_m2 := F_modCount_m2.other W_10 (Or.inl (Ne.symm ne_g_m2))
  have V_bs2 := V_bs2.other W_10 (Ne.symm ne_g_bs2)
  have V_bp2 := V_bp2.other W_10 (Ne.symm ne_g_bp2)
  have V_bo2 := V_bo2.other W_10 (Ne.symm ne_g_bo2)
  have V_bf2 := V_bf2.other W_10 (Ne.symm ne_g_bf2)
  have N_10 := Fr.snoc X_10 N_9 le_n0_g
  refine hst st_10 ?_
  show G (T_10.setTop (mkF mI 46 #[.val (.ref g), .val (.ref ir), .val (.ref pi), .val (.ref gl), .val (.ref t1), .val (.ref t2), .val (.ref lf), .val (.ref px)] []))
  refine o_aloadN hst X_10.here hx (hb hby drg_46) (pc' := 47) rfl rfl rfl ?_
  refine o_aload hst X_10.here hx (hb hby drg_47) (pc' := 49) rfl rfl rfl ?_
  obtain ⟨cq_11, kq_11, q_11a, q_11b, q_11c⟩ := isOf hZ e_10 E_t1
  obtain ⟨_, _, ⟨T_11, L_11, k_11, n_11⟩, -, X_11, ⟨Lc_11, hQ_11, l_11, y_11, z_11⟩, st_11⟩ := X_10.virtualBack hx (y := (⟨own_TT, "memberships", "()Lcom/example/weser/weser/core/Memberships;"⟩ : MethodName)) (z := (⟨own_TT, "memberships", "()Lcom/example/weser/weser/core/Memberships;"⟩ : MethodName)) hown (mvT hZ (own_w195 hw)) (mvT hZ (own_w196 hw)) (notFace_of_selects (args := #[]) (mvT hZ (own_w198 hw))) (mvT hZ (own_w198 hw)) (mvT hZ (own_w197 hw)) (by decide) (backOf (W := 1) (rmM0 lL Z a0 hw [] t1 s1 m1 bf1 k_bf1 h_10 n0 Z0 E_t1 F_size_t1 F_otherGraphs_t1 F_firstGraphs_t1 V_bf1 E_s1 F_map_s1 E_m1 F_size_m1 F_keySet_m1 F_head_m1 F_modCount_m1 le_n0_m1) hZ (own_w199 hw) (own_w31 hw) (by decide) (by decide)) q_11a q_11c (g := (mkF mI 49 #[.val (.ref g), .val (.ref ir), .val (.ref pi), .val (.ref gl), .val (.ref t1), .val (.ref t2), .val (.ref lf), .val (.ref px)] [(.ref t1), (.ref g)])) rfl (by rw [hml]; rfl) (Steps.refl _) (argsL := []) (rest := [(.ref g)]) (lenOf pd_18 rfl) rfl (by show 2 * 0 + _ ≤ _; exact Nat.le_of_eq rfl) (hb hby drg_49) (fun _ _ => ⟨rfl, e_10, (by decide : 3 + 5 ≤ _), (by decide : 0 + 9 ≤ _)⟩)
  dsimp only [Pt.U, Pt.locs, Pt.cells, Pt.slots] at X_11 l_11 y_11 z_11 st_11 hQ_11
  subst l_11 y_11 z_11
  obtain ⟨mb, ks1, rfl, N_11q, K_11, le_ks1, GF_size_m, GF_keySet_m, GF_head_m, GF_modCount_m, GE_ks, GF_this_0_ks, GF_reversed_ks⟩ := hQ_11
  have ne_g_ks1 : g ≠ ks1 := Nat.ne_of_lt (Nat.lt_of_lt_of_le F_linkMemberships_g.lt le_ks1)
  have ne_t1_ks1 : t1 ≠ ks1 := Nat.ne_of_lt (Nat.lt_of_lt_of_le E_t1.lt le_ks1)
  have ne_s1_ks1 : s1 ≠ ks1 := Nat.ne_of_lt (Nat.lt_of_lt_of_le E_s1.lt le_ks1)
  have ne_m1_ks1 : m1 ≠ ks1 := Nat.ne_of_lt (Nat.lt_of_lt_of_le E_m1.lt le_ks1)
  have ne_bs1_ks1 : bs1 ≠ ks1 := Nat.ne_of_lt (Nat.lt_of_lt_of_le V_bs1.lt le_ks1)
  have ne_bp1_ks1 : bp1 ≠ ks1 := Nat.ne_of_lt (Nat.lt_of_lt_of_le V_bp1.lt le_ks1)
  have ne_bo1_ks1 : bo1 ≠ ks1 := Nat.ne_of_lt (Nat.lt_of_lt_of_le V_bo1.lt le_ks1)
  have ne_bf1_ks1 : bf1 ≠ ks1 := Nat.ne_of_lt (Nat.lt_of_lt_of_le V_bf1.lt le_ks1)
  have ne_t2_ks1 : t2 ≠ ks1 := Nat.ne_of_lt (Nat.lt_of_lt_of_le E_t2.lt le_ks1)
  have ne_s2_ks1 : s2 ≠ ks1 := Nat.ne_of_lt (Nat.lt_of_lt_of_le E_s2.lt le_ks1)
  have ne_m2_ks1 : m2 ≠ ks1 := Nat.ne_of_lt (Nat.lt_of_lt_of_le E_m2.lt le_ks1)
  have ne_bs2_ks1 : bs2 ≠ ks1 := Nat.ne_of_lt (Nat.lt_of_lt_of_le V_bs2.lt le_ks1)
  have ne_bp2_ks1 : bp2 ≠ ks1 := Nat.ne_of_lt (Nat.lt_of_lt_of_le V_bp2.lt le_ks1)
  have ne_bo2_ks1 : bo2 ≠ ks1 := Nat.ne_of_lt (Nat.lt_of_lt_of_le V_bo2.lt le_ks1)
  have ne_bf2_ks1 : bf2 ≠ ks1 := Nat.ne_of_lt (Nat.lt_of_lt_of_le V_bf2.lt le_ks1)
  have ne_t1_m1 : t1 ≠ m1 := ne_exa E_t1 E_m1 (by decide)
  have ne_s1_m1 : s1 ≠ m1 := ne_exa E_s1 E_m1 (by decide)
  have ne_bs1_m1 : bs1 ≠ m1 := Ne.symm (own_ne_arv E_m1 (own_w72 hw) V_bs1)
  have ne_bp1_m1 : bp1 ≠ m1 := Ne.symm (own_ne_arv E_m1 (own_w72 hw) V_bp1)
  have ne_bo1_m1 : bo1 ≠ m1 := Ne.symm (own_ne_arv E_m1 (own_w72 hw) V_bo1)
  have ne_bf1_m1 : bf1 ≠ m1 := Ne.symm (own_ne_arv E_m1 (own_w72 hw) V_bf1)
  have ne_t2_m1 : t2 ≠ m1 := ne_exa E_t2 E_m1 (by decide)
  have ne_s2_m1 : s2 ≠ m1 := ne_exa E_s2 E_m1 (by decide)
  have ne_bs2_m1 : bs2 ≠ m1 := Ne.symm (own_ne_arv E_m1 (own_w72 hw) V_bs2)
  have ne_bp2_m1 : bp2 ≠ m1 := Ne.symm (own_ne_arv E_m1 (own_w72 hw) V_bp2)
  have ne_bo2_m1 : bo2 ≠ m1 := Ne.symm (own_ne_arv E_m1 (own_w72 hw) V_bo2)
  have ne_bf2_m1 : bf2 ≠ m1 := Ne.symm (own_ne_arv E_m1 (own_w72 hw) V_bf2)
  have Z0 := Nat.le_trans Z0 K_11.1
  have Z1 := Nat.le_trans Z1 K_11.1
  have K0 := K0.trans K_11 (allS (Or.inl (List.mem_of_getElem? (i := 1) rfl)) all0)
  have F_linkMemberships_g := F_linkMemberships_g.keep K_11 (ninS ne_g_m1 nin0)
  have F_literalSubjects_g := F_literalSubjects_g.keep K_11 (ninS ne_g_m1 nin0)
  have F_literalPredicates_g := F_literalPredicates_g.keep K_11 (ninS ne_g_m1 nin0)
  have F_literalMemberships_g := F_literalMemberships_g.keep K_11 (ninS ne_g_m1 nin0)
  have F_literalObjects_g := F_literalObjects_g.keep K_11 (ninS ne_g_m1 nin0)
  have F_lexicalForms_g := F_lexicalForms_g.keep K_11 (ninS ne_g_m1 nin0)
  have F_prefixes_g := F_prefixes_g.keep K_11 (ninS ne_g_m1 nin0)
  have E_g := E_g.keep K_11
  have E_t1 := E_t1.keep K_11
  have F_subjects_t1 := F_subjects_t1.keep K_11 (ninS ne_t1_m1 nin0)
  have F_predicates_t1 := F_predicates_t1.keep K_11 (ninS ne_t1_m1 nin0)
  have F_objects_t1 := F_objects_t1.keep K_11 (ninS ne_t1_m1 nin0)
  have F_firstGraphs_t1 := F_firstGraphs_t1.keep K_11 (ninS ne_t1_m1 nin0)
  have F_otherGraphs_t1 := F_otherGraphs_t1.keep K_11 (ninS ne_t1_m1 nin0)
  have F_size_t1 := F_size_t1.keep K_11 (ninS ne_t1_m1 nin0)
  have E_s1 := E_s1.keep K_11
  have F_map_s1 := F_map_s1.keep K_11 (ninS ne_s1_m1 nin0)
  have E_m1 := E_m1.keep K_11
  have V_bs1 := V_bs1.keep K_11 (ninS ne_bs1_m1 nin0)
  have V_bp1 := V_bp1.keep K_11 (ninS ne_bp1_m1 nin0)
  have V_bo1 := V_bo1.keep K_11 (ninS ne_bo1_m1 nin0)
  have V_bf1 := V_bf1.keep K_11 (ninS ne_bf1_m1 nin0)
  have E_t2 := E_t2.keep K_11
  have F_subjects_t2 := F_subjects_t2.keep K_11 (ninS ne_t2_m1 nin0)
  have F_predicates_t2 := F_predicates_t2.keep K_11 (ninS ne_t2_m1 nin0)
  have F_objects_t2 := F_objects_t2.keep K_11 (ninS ne_t2_m1 nin0)
  have F_firstGraphs_t2 := F_firstGraphs_t2.keep K_11 (ninS ne_t2_m1 nin0)
  have F_otherGraphs_t2 := F_otherGraphs_t2.keep K_11 (ninS ne_t2_m1 nin0)
  have F_size_t2 := F_size_t2.keep K_11 (ninS ne_t2_m1 nin0)
  have E_s2 := E_s2.keep K_11
  have F_map_s2 := F_map_s2.keep K_11 (ninS ne_s2_m1 nin0)
  have E_m2 := E_m2.keep K_11
  have F_size_m2 := F_size_m2.keep K_11 (ninS (Ne.symm ne_m1_m2) nin0)
  have F_keySet_m2 := F_keySet_m2.keep K_11 (ninS (Ne.symm ne_m1_m2) nin0)
  have F_head_m2 := F_head_m2.keep K_11 (ninS (Ne.symm ne_m1_m2) nin0)
  have F_modCount_m2 := F_modCount_m2.keep K_11 (ninS (Ne.symm ne_m1_m2) nin0)
  have V_bs2 := V_bs2.keep K_11 (ninS ne_bs2_m1 nin0)
  have V_bp2 := V_bp2.keep K_11 (ninS ne_bp2_m1 nin0)
  have V_bo2 := V_bo2.keep K_11 (ninS ne_bo2_m1 nin0)
  have V_bf2 := V_bf2.keep K_11 (ninS ne_bf2_m1 nin0)
  have N_11 := Fr.app N_10 N_11q
  refine hst (fun _ kt => st_11.trans kt) ?_
  show G (T_11.setTop (mkF mI 52 #[.val (.ref g), .val (.ref ir), .val (.ref pi), .val (.ref gl), .val (.ref t1), .val (.ref t2), .val (.ref lf), .val (.ref px)] [(.ref mb), (.ref g)]))
  obtain ⟨T_12, h_12, X_12, e_12, W_12, st_12⟩ := putF X_11 hx hZ hown (host := "") (Or.inl (own_w313 hw)) Via.refl rfl F_linkMemberships_g E_g (Or.inr ⟨(own_w314 hw), rfl, hnm⟩) (own_w132 hw) (ty := (.object own_MB)) (by decide) rfl rfl (g := (mkF mI 52 #[.val (.ref g), .val (.ref ir), .val (.ref pi), .val (.ref gl), .val (.ref t1), .val (.ref t2), .val (.ref lf), .val (.ref px)] [(.ref mb), (.ref g)])) rfl rfl (hb hby drg_52)
  have Z0 := Nat.le_trans Z0 (Keep.of_wr W_12).1
  have Z1 := Nat.le_trans Z1 (Keep.of_wr W_12).1
  have K0 := K0.wr W_12 (Or.inl (List.mem_of_getElem? (i := 0) rfl))
  have F_linkMemberships_g := F_linkMemberships_g.same W_12
  have F_literalSubjects_g := F_literalSubjects_g.other W_12 (Or.inr (slot_ne (Or.inr (own_w316 hw)) (Or.inr (own_w314 hw)) (by decide) (t := (.array .int)) (t' := (.object own_MB)) (by decide) (by decide)))
  have F_literalPredicates_g := F_literalPredicates_g.other W_12 (Or.inr (slot_ne (Or.inr (own_w318 hw)) (Or.inr (own_w314 hw)) (by decide) (t := (.array .int)) (t' := (.object own_MB)) (by decide) (by decide)))
  have F_literalMemberships_g := F_literalMemberships_g.other W_12 (Or.inr (slot_ne (Or.inr (own_w320 hw)) (Or.inr (own_w314 hw)) (by decide) (t := (.object own_MB)) (t' := (.object own_MB)) (by decide) (by decide)))
  have F_literalObjects_g := F_literalObjects_g.other W_12 (Or.inr (slot_ne (Or.inr (own_w322 hw)) (Or.inr (own_w314 hw)) (by decide) (t := (.array .int)) (t' := (.object own_MB)) (by decide) (by decide)))
  have F_lexicalForms_g := F_lexicalForms_g.other W_12 (Or.inr (slot_ne (Or.inr (own_w324 hw)) (Or.inr (own_w314 hw)) (by decide) (t := (.array (.object "java/lang/String"))) (t' := (.object own_MB)) (by decide) (by decide)))
  have F_prefixes_g := F_prefixes_g.other W_12 (Or.inr (slot_ne (Or.inr (own_w326 hw)) (Or.inr (own_w314 hw)) (by decide) (t := (.object own_PX)) (t' := (.object own_MB)) (by decide) (by decide)))
  have E_g := E_g.wr W_12
  have E_t1 := E_t1.wr W_12
  have F_subjects_t1 := F_subjects_t1.other W_12 (Or.inl (Ne.symm ne_g_t1))
  have F_predicates_t1 := F_predicates_t1.other W_12 (Or.inl (Ne.symm ne_g_t1))
  have F_objects_t1 := F_objects_t1.other W_12 (Or.inl (Ne.symm ne_g_t1))
  have F_firstGraphs_t1 := F_firstGraphs_t1.other W_12 (Or.inl (Ne.symm ne_g_t1))
  have F_otherGraphs_t1 := F_otherGraphs_t1.other W_12 (Or.inl (Ne.symm ne_g_t1))
  have F_size_t1 := F_size_t1.other W_12 (Or.inl (Ne.symm ne_g_t1))
  have E_s1 := E_s1.wr W_12
  have F_map_s1 := F_map_s1.other W_12 (Or.inl (Ne.symm ne_g_s1))
  have E_m1 := E_m1.wr W_12
  have V_bs1 := V_bs1.other W_12 (Ne.symm ne_g_bs1)
  have V_bp1 := V_bp1.other W_12 (Ne.symm ne_g_bp1)
  have V_bo1 := V_bo1.other W_12 (Ne.symm ne_g_bo1)
  have V_bf1 := V_bf1.other W_12 (Ne.symm ne_g_bf1)
  have E_t2 := E_t2.wr W_12
  have F_subjects_t2 := F_subjects_t2.other W_12 (Or.inl (Ne.symm ne_g_t2))
  have F_predicates_t2 := F_predicates_t2.other W_12 (Or.inl (Ne.symm ne_g_t2))
  have F_objects_t2 := F_objects_t2.other W_12 (Or.inl (Ne.symm ne_g_t2))
  have F_firstGraphs_t2 := F_firstGraphs_t2.other W_12 (Or.inl (Ne.symm ne_g_t2))
  have F_otherGraphs_t2 := F_otherGraphs_t2.other W_12 (Or.inl (Ne.symm ne_g_t2))
  have F_size_t2 := F_size_t2.other W_12 (Or.inl (Ne.symm ne_g_t2))
  have E_s2 := E_s2.wr W_12
  have F_map_s2 := F_map_s2.other W_12 (Or.inl (Ne.symm ne_g_s2))
  have E_m2 := E_m2.wr W_12
  have F_size_m2 := F_size_m2.other W_12 (Or.inl (Ne.symm ne_g_m2))
  have F_keySet_m2 := F_keySet_m2.other W_12 (Or.inl (Ne.symm ne_g_m2))
  have F_head_m2 := F_head_m2.other W_12 (Or.inl (Ne.symm ne_g_m2))
  have F_modCount_m2 := F_modCount_m2.other W_12 (Or.inl (Ne.symm ne_g_m2))
  have V_bs2 := V_bs2.other W_12 (Ne.symm ne_g_bs2)
  have V_bp2 := V_bp2.other W_12 (Ne.symm ne_g_bp2)
  have V_bo2 := V_bo2.other W_12 (Ne.symm ne_g_bo2)
  have V_bf2 := V_bf2.other W_12 (Ne.symm ne_g_bf2)
  have N_12 := Fr.snoc X_12 N_11 le_n0_g
  refine hst st_12 ?_
  show G (T_12.setTop (mkF mI 55 #[.val (.ref g), .val (.ref ir), .val (.ref pi), .val (.ref gl), .val (.ref t1), .val (.ref t2), .val (.ref lf), .val (.ref px)] []))
  refine o_aloadN hst X_12.here hx (hb hby drg_55) (pc' := 56) rfl rfl rfl ?_
  refine o_aload hst X_12.here hx (hb hby drg_56) (pc' := 58) rfl rfl rfl ?_
  obtain ⟨cq_13, kq_13, q_13a, q_13b, q_13c⟩ := isOf hZ e_12 E_t2
  obtain ⟨_, _, ⟨T_13, L_13, k_13, n_13⟩, -, X_13, ⟨Lc_13, hQ_13, l_13, y_13, z_13⟩, st_13⟩ := X_12.virtualBack hx (y := (⟨own_TT, "subjects", "()[I"⟩ : MethodName)) (z := (⟨own_TT, "subjects", "()[I"⟩ : MethodName)) hown (mvT hZ (own_w162 hw)) (mvT hZ (own_w163 hw)) (notFace_of_selects (args := #[]) (mvT hZ (own_w165 hw))) (mvT hZ (own_w165 hw)) (mvT hZ (own_w164 hw)) (by decide) (backOf (W := 1) (rmgbs3 lL Z a0 hw [] t2 bs2 k_bs2 x0 x1 x2 h_12 n0 Z0 F_subjects_t2 F_size_t2 V_bs2) hZ (own_w166 hw) (own_w31 hw) (by decide) (by decide)) q_13a q_13c (g := (mkF mI 58 #[.val (.ref g), .val (.ref ir), .val (.ref pi), .val (.ref gl), .val (.ref t1), .val (.ref t2), .val (.ref lf), .val (.ref px)] [(.ref t2), (.ref g)])) rfl (by rw [hml]; rfl) (Steps.refl _) (argsL := []) (rest := [(.ref g)]) (lenOf pd_17 rfl) rfl (by show 2 * 0 + _ ≤ _; exact Nat.le_of_eq rfl) (hb hby drg_58) (fun _ _ => ⟨rfl, e_12, (by decide : 8 + 1 ≤ _), (by decide : 9 + 3 ≤ _)⟩)
  dsimp only [Pt.U, Pt.locs, Pt.cells, Pt.slots] at X_13 l_13 y_13 z_13 st_13 hQ_13
  subst l_13 y_13 z_13
  obtain ⟨c_13, kc_13, rfl, N_13q, K_13, le_c_13, V_c_13⟩ := hQ_13
  have Z0 := Nat.le_trans Z0 K_13.1
  have Z1 := Nat.le_trans Z1 K_13.1
  have K0 := K0.trans K_13 all0
  have F_literalSubjects_g := F_literalSubjects_g.keep K_13 nin0
  have F_literalPredicates_g := F_literalPredicates_g.keep K_13 nin0
  have F_literalMemberships_g := F_literalMemberships_g.keep K_13 nin0
  have F_literalObjects_g := F_literalObjects_g.keep K_13 nin0
  have F_lexicalForms_g := F_lexicalForms_g.keep K_13 nin0
  have F_prefixes_g := F_prefixes_g.keep K_13 nin0
  have E_g := E_g.keep K_13
  have E_t1 := E_t1.keep K_13
  have F_subjects_t1 := F_subjects_t1.keep K_13 nin0
  have F_predicates_t1 := F_predicates_t1.keep K_13 nin0
  have F_objects_t1 := F_objects_t1.keep K_13 nin0
  have F_firstGraphs_t1 := F_firstGraphs_t1.keep K_13 nin0
  have F_otherGraphs_t1 := F_otherGraphs_t1.keep K_13 nin0
  have F_size_t1 := F_size_t1.keep K_13 nin0
  have E_s1 := E_s1.keep K_13
  have F_map_s1 := F_map_s1.keep K_13 nin0
  have E_m1 := E_m1.keep K_13
  have V_bs1 := V_bs1.keep K_13 nin0
  have V_bp1 := V_bp1.keep K_13 nin0
  have V_bo1 := V_bo1.keep K_13 nin0
  have V_bf1 := V_bf1.keep K_13 nin0
  have E_t2 := E_t2.keep K_13
  have F_subjects_t2 := F_subjects_t2.keep K_13 nin0
  have F_predicates_t2 := F_predicates_t2.keep K_13 nin0
  have F_objects_t2 := F_objects_t2.keep K_13 nin0
  have F_firstGraphs_t2 := F_firstGraphs_t2.keep K_13 nin0
  have F_otherGraphs_t2 := F_otherGraphs_t2.keep K_13 nin0
  have F_size_t2 := F_size_t2.keep K_13 nin0
  have E_s2 := E_s2.keep K_13
  have F_map_s2 := F_map_s2.keep K_13 nin0
  have E_m2 := E_m2.keep K_13
  have F_size_m2 := F_size_m2.keep K_13 nin0
  have F_keySet_m2 := F_keySet_m2.keep K_13 nin0
  have F_head_m2 := F_head_m2.keep K_13 nin0
  have F_modCount_m2 := F_modCount_m2.keep K_13 nin0
  have V_bs2 := V_bs2.keep K_13 nin0
  have V_bp2 := V_bp2.keep K_13 nin0
  have V_bo2 := V_bo2.keep K_13 nin0
  have V_bf2 := V_bf2.keep K_13 nin0
  have N_13 := Fr.app N_12 N_13q
  refine hst (fun _ kt => st_13.trans kt) ?_
  show G (T_13.setTop (mkF mI 61 #[.val (.ref g), .val (.ref ir), .val (.ref pi), .val (.ref gl), .val (.ref t1), .val (.ref t2), .val (.ref lf), .val (.ref px)] [(.ref c_13), (.ref g)]))
  obtain ⟨T_14, h_14, X_14, e_14, W_14, st_14⟩ := putF X_13 hx hZ hown (host := "") (Or.inl (own_w315 hw)) Via.refl rfl F_literalSubjects_g E_g (Or.inr ⟨(own_w316 hw), rfl, hnm⟩) (own_w132 hw) (ty := (.array .int)) (by decide) rfl rfl (g := (mkF mI 61 #[.val (.ref g), .val (.ref ir), .val (.ref pi), .val (.ref gl), .val (.ref t1), .val (.ref t2), .val (.ref lf), .val (.ref px)] [(.ref c_13), (.ref g)])) rfl rfl (hb hby drg_61)
  have Z0 := Nat.le_trans Z0 (Keep.of_wr W_14).1
  have Z1 := Nat.le_trans Z1 (Keep.of_wr W_14).1
  have K0 := K0.wr W_14 (Or.inl (List.mem_of_getElem? (i := 0) rfl))
  have F_literalSubjects_g := F_literalSubjects_g.same W_14
  have F_literalPredicates_g := F_literalPredicates_g.other W_14 (Or.inr (slot_ne (Or.inr (own_w318 hw)) (Or.inr (own_w316 hw)) (by decide) (t := (.array .int)) (t' := (.array .int)) (by decide) (by decide)))
  have F_literalMemberships_g := F_literalMemberships_g.other W_14 (Or.inr (slot_ne (Or.inr (own_w320 hw)) (Or.inr (own_w316 hw)) (by decide) (t := (.object own_MB)) (t' := (.array .int)) (by decide) (by decide)))
  have F_literalObjects_g := F_literalObjects_g.other W_14 (Or.inr (slot_ne (Or.inr (own_w322 hw)) (Or.inr (own_w316 hw)) (by decide) (t := (.array .int)) (t' := (.array .int)) (by decide) (by decide)))
  have F_lexicalForms_g := F_lexicalForms_g.other W_14 (Or.inr (slot_ne (Or.inr (own_w324 hw)) (Or.inr (own_w316 hw)) (by decide) (t := (.array (.object "java/lang/String"))) (t' := (.array .int)) (by decide) (by decide)))
  have F_prefixes_g := F_prefixes_g.other W_14 (Or.inr (slot_ne (Or.inr (own_w326 hw)) (Or.inr (own_w316 hw)) (by decide) (t := (.object own_PX)) (t' := (.array .int)) (by decide) (by decide)))
  have E_g := E_g.wr W_14
  have E_t1 := E_t1.wr W_14
  have F_subjects_t1 := F_subjects_t1.other W_14 (Or.inl (Ne.symm ne_g_t1))
  have F_predicates_t1 := F_predicates_t1.other W_14 (Or.inl (Ne.symm ne_g_t1))
  have F_objects_t1 := F_objects_t1.other W_14 (Or.inl (Ne.symm ne_g_t1))
  have F_firstGraphs_t1 := F_firstGraphs_t1.other W_14 (Or.inl (Ne.symm ne_g_t1))
  have F_otherGraphs_t1 := F_otherGraphs_t1.other W_14 (Or.inl (Ne.symm ne_g_t1))
  have F_size_t1 := F_size_t1.other W_14 (Or.inl (Ne.symm ne_g_t1))
  have E_s1 := E_s1.wr W_14
  have F_map_s1 := F_map_s1.other W_14 (Or.inl (Ne.symm ne_g_s1))
  have E_m1 := E_m1.wr W_14
  have V_bs1 := V_bs1.other W_14 (Ne.symm ne_g_bs1)
  have V_bp1 := V_bp1.other W_14 (Ne.symm ne_g_bp1)
  have V_bo1 := V_bo1.other W_14 (Ne.symm ne_g_bo1)
  have V_bf1 := V_bf1.other W_14 (Ne.symm ne_g_bf1)
  have E_t2 := E_t2.wr W_14
  have F_subjects_t2 := F_subjects_t2.other W_14 (Or.inl (Ne.symm ne_g_t2))
  have F_predicates_t2 := F_predicates_t2.other W_14 (Or.inl (Ne.symm ne_g_t2))
  have F_objects_t2 := F_objects_t2.other W_14 (Or.inl (Ne.symm ne_g_t2))
  have F_firstGraphs_t2 := F_firstGraphs_t2.other W_14 (Or.inl (Ne.symm ne_g_t2))
  have F_otherGraphs_t2 := F_otherGraphs_t2.other W_14 (Or.inl (Ne.symm ne_g_t2))
  have F_size_t2 := F_size_t2.other W_14 (Or.inl (Ne.symm ne_g_t2))
  have E_s2 := E_s2.wr W_14
  have F_map_s2 := F_map_s2.other W_14 (Or.inl (Ne.symm ne_g_s2))
  have E_m2 := E_m2.wr W_14
  have F_size_m2 := F_size_m2.other W_14 (Or.inl (Ne.symm ne_g_m2))
  have F_keySet_m2 := F_keySet_m2.other W_14 (Or.inl (Ne.symm ne_g_m2))
  have F_head_m2 := F_head_m2.other W_14 (Or.inl (Ne.symm ne_g_m2))
  have F_modCount_m2 := F_modCount_m2.other W_14 (Or.inl (Ne.symm ne_g_m2))
  have V_bs2 := V_bs2.other W_14 (Ne.symm ne_g_bs2)
  have V_bp2 := V_bp2.other W_14 (Ne.symm ne_g_bp2)
  have V_bo2 := V_bo2.other W_14 (Ne.symm ne_g_bo2)
  have V_bf2 := V_bf2.other W_14 (Ne.symm ne_g_bf2)
  have N_14 := Fr.snoc X_14 N_13 le_n0_g
  refine hst st_14 ?_
  show G (T_14.setTop (mkF mI 64 #[.val (.ref g), .val (.ref ir), .val (.ref pi), .val (.ref gl), .val (.ref t1), .val (.ref t2), .val (.ref lf), .val (.ref px)] []))
  refine o_aloadN hst X_14.here hx (hb hby drg_64) (pc' := 65) rfl rfl rfl ?_
  refine o_aload hst X_14.here hx (hb hby drg_65) (pc' := 67) rfl rfl rfl ?_
  obtain ⟨cq_15, kq_15, q_15a, q_15b, q_15c⟩ := isOf hZ e_14 E_t2
  obtain ⟨_, _, ⟨T_15, L_15, k_15, n_15⟩, -, X_15, ⟨Lc_15, hQ_15, l_15, y_15, z_15⟩, st_15⟩ := X_14.virtualBack hx (y := (⟨own_TT, "predicates", "()[I"⟩ : MethodName)) (z := (⟨own_TT, "predicates", "()[I"⟩ : MethodName)) hown (mvT hZ (own_w181 hw)) (mvT hZ (own_w182 hw)) (notFace_of_selects (args := #[]) (mvT hZ (own_w184 hw))) (mvT hZ (own_w184 hw)) (mvT hZ (own_w183 hw)) (by decide) (backOf (W := 1) (rmgbp3 lL Z a0 hw [] t2 bp2 k_bp2 y0 y1 y2 h_14 n0 Z0 F_predicates_t2 F_size_t2 V_bp2) hZ (own_w185 hw) (own_w31 hw) (by decide) (by decide)) q_15a q_15c (g := (mkF mI 67 #[.val (.ref g), .val (.ref ir), .val (.ref pi), .val (.ref gl), .val (.ref t1), .val (.ref t2), .val (.ref lf), .val (.ref px)] [(.ref t2), (.ref g)])) rfl (by rw [hml]; rfl) (Steps.refl _) (argsL := []) (rest := [(.ref g)]) (lenOf pd_17 rfl) rfl (by show 2 * 0 + _ ≤ _; exact Nat.le_of_eq rfl) (hb hby drg_67) (fun _ _ => ⟨rfl, e_14, (by decide : 9 + 1 ≤ _), (by decide : 12 + 3 ≤ _)⟩)
  dsimp only [Pt.U, Pt.locs, Pt.cells, Pt.slots] at X_15 l_15 y_15 z_15 st_15 hQ_15
  subst l_15 y_15 z_15
  obtain ⟨c_15, kc_15, rfl, N_15q, K_15, le_c_15, V_c_15⟩ := hQ_15
  have Z0 := Nat.le_trans Z0 K_15.1
  have Z1 := Nat.le_trans Z1 K_15.1
  have K0 := K0.trans K_15 all0
  have F_literalPredicates_g := F_literalPredicates_g.keep K_15 nin0
  have F_literalMemberships_g := F_literalMemberships_g.keep K_15 nin0
  have F_literalObjects_g := F_literalObjects_g.keep K_15 nin0
  have F_lexicalForms_g := F_lexicalForms_g.keep K_15 nin0
  have F_prefixes_g := F_prefixes_g.keep K_15 nin0
  have E_g := E_g.keep K_15
  have E_t1 := E_t1.keep K_15
  have F_subjects_t1 := F_subjects_t1.keep K_15 nin0
  have F_predicates_t1 := F_predicates_t1.keep K_15 nin0
  have F_objects_t1 := F_objects_t1.keep K_15 nin0
  have F_firstGraphs_t1 := F_firstGraphs_t1.keep K_15 nin0
  have F_otherGraphs_t1 := F_otherGraphs_t1.keep K_15 nin0
  have F_size_t1 := F_size_t1.keep K_15 nin0
  have E_s1 := E_s1.keep K_15
  have F_map_s1 := F_map_s1.keep K_15 nin0
  have E_m1 := E_m1.keep K_15
  have V_bs1 := V_bs1.keep K_15 nin0
  have V_bp1 := V_bp1.keep K_15 nin0
  have V_bo1 := V_bo1.keep K_15 nin0
  have V_bf1 := V_bf1.keep K_15 nin0
  have E_t2 := E_t2.keep K_15
  have F_subjects_t2 := F_subjects_t2.keep K_15 nin0
  have F_predicates_t2 := F_predicates_t2.keep K_15 nin0
  have F_objects_t2 := F_objects_t2.keep K_15 nin0
  have F_firstGraphs_t2 := F_firstGraphs_t2.keep K_15 nin0
  have F_otherGraphs_t2 := F_otherGraphs_t2.keep K_15 nin0
  have F_size_t2 := F_size_t2.keep K_15 nin0
  have E_s2 := E_s2.keep K_15
  have F_map_s2 := F_map_s2.keep K_15 nin0
  have E_m2 := E_m2.keep K_15
  have F_size_m2 := F_size_m2.keep K_15 nin0
  have F_keySet_m2 := F_keySet_m2.keep K_15 nin0
  have F_head_m2 := F_head_m2.keep K_15 nin0
  have F_modCount_m2 := F_modCount_m2.keep K_15 nin0
  have V_bs2 := V_bs2.keep K_15 nin0
  have V_bp2 := V_bp2.keep K_15 nin0
  have V_bo2 := V_bo2.keep K_15 nin0
  have V_bf2 := V_bf2.keep K_15 nin0
  have N_15 := Fr.app N_14 N_15q
  refine hst (fun _ kt => st_15.trans kt) ?_
  show G (T_15.setTop (mkF mI 70 #[.val (.ref g), .val (.ref ir), .val (.ref pi), .val (.ref gl), .val (.ref t1), .val (.ref t2), .val (.ref lf), .val (.ref px)] [(.ref c_15), (.ref g)]))
  obtain ⟨T_16, h_16, X_16, e_16, W_16, st_16⟩ := putF X_15 hx hZ hown (host := "") (Or.inl (own_w317 hw)) Via.refl rfl F_literalPredicates_g E_g (Or.inr ⟨(own_w318 hw), rfl, hnm⟩) (own_w132 hw) (ty := (.array .int)) (by decide) rfl rfl (g := (mkF mI 70 #[.val (.ref g), .val (.ref ir), .val (.ref pi), .val (.ref gl), .val (.ref t1), .val (.ref t2), .val (.ref lf), .val (.ref px)] [(.ref c_15), (.ref g)])) rfl rfl (hb hby drg_70)
  have Z0 := Nat.le_trans Z0 (Keep.of_wr W_16).1
  have Z1 := Nat.le_trans Z1 (Keep.of_wr W_16).1
  have K0 := K0.wr W_16 (Or.inl (List.mem_of_getElem? (i := 0) rfl))
  have F_literalPredicates_g := F_literalPredicates_g.same W_16
  have F_literalMemberships_g := F_literalMemberships_g.other W_16 (Or.inr (slot_ne (Or.inr (own_w320 hw)) (Or.inr (own_w318 hw)) (by decide) (t := (.object own_MB)) (t' := (.array .int)) (by decide) (by decide)))
  have F_literalObjects_g := F_literalObjects_g.other W_16 (Or.inr (slot_ne (Or.inr (own_w322 hw)) (Or.inr (own_w318 hw)) (by decide) (t := (.array .int)) (t' := (.array .int)) (by decide) (by decide)))
  have F_lexicalForms_g := F_lexicalForms_g.other W_16 (Or.inr (slot_ne (Or.inr (own_w324 hw)) (Or.inr (own_w318 hw)) (by decide) (t := (.array (.object "java/lang/String"))) (t' := (.array .int)) (by decide) (by decide)))
  have F_prefixes_g := F_prefixes_g.other W_16 (Or.inr (slot_ne (Or.inr (own_w326 hw)) (Or.inr (own_w318 hw)) (by decide) (t := (.object own_PX)) (t' := (.array .int)) (by decide) (by decide)))
  have E_g := E_g.wr W_16
  have E_t1 := E_t1.wr W_16
  have F_subjects_t1 := F_subjects_t1.other W_16 (Or.inl (Ne.symm ne_g_t1))
  have F_predicates_t1 := F_predicates_t1.other W_16 (Or.inl (Ne.symm ne_g_t1))
  have F_objects_t1 := F_objects_t1.other W_16 (Or.inl (Ne.symm ne_g_t1))
  have F_firstGraphs_t1 := F_firstGraphs_t1.other W_16 (Or.inl (Ne.symm ne_g_t1))
  have F_otherGraphs_t1 := F_otherGraphs_t1.other W_16 (Or.inl (Ne.symm ne_g_t1))
  have F_size_t1 := F_size_t1.other W_16 (Or.inl (Ne.symm ne_g_t1))
  have E_s1 := E_s1.wr W_16
  have F_map_s1 := F_map_s1.other W_16 (Or.inl (Ne.symm ne_g_s1))
  have E_m1 := E_m1.wr W_16
  have V_bs1 := V_bs1.other W_16 (Ne.symm ne_g_bs1)
  have V_bp1 := V_bp1.other W_16 (Ne.symm ne_g_bp1)
  have V_bo1 := V_bo1.other W_16 (Ne.symm ne_g_bo1)
  have V_bf1 := V_bf1.other W_16 (Ne.symm ne_g_bf1)
  have E_t2 := E_t2.wr W_16
  have F_subjects_t2 := F_subjects_t2.other W_16 (Or.inl (Ne.symm ne_g_t2))
  have F_predicates_t2 := F_predicates_t2.other W_16 (Or.inl (Ne.symm ne_g_t2))
  have F_objects_t2 := F_objects_t2.other W_16 (Or.inl (Ne.symm ne_g_t2))
  have F_firstGraphs_t2 := F_firstGraphs_t2.other W_16 (Or.inl (Ne.symm ne_g_t2))
  have F_otherGraphs_t2 := F_otherGraphs_t2.other W_16 (Or.inl (Ne.symm ne_g_t2))
  have F_size_t2 := F_size_t2.other W_16 (Or.inl (Ne.symm ne_g_t2))
  have E_s2 := E_s2.wr W_16
  have F_map_s2 := F_map_s2.other W_16 (Or.inl (Ne.symm ne_g_s2))
  have E_m2 := E_m2.wr W_16
  have F_size_m2 := F_size_m2.other W_16 (Or.inl (Ne.symm ne_g_m2))
  have F_keySet_m2 := F_keySet_m2.other W_16 (Or.inl (Ne.symm ne_g_m2))
  have F_head_m2 := F_head_m2.other W_16 (Or.inl (Ne.symm ne_g_m2))
  have F_modCount_m2 := F_modCount_m2.other W_16 (Or.inl (Ne.symm ne_g_m2))
  have V_bs2 := V_bs2.other W_16 (Ne.symm ne_g_bs2)
  have V_bp2 := V_bp2.other W_16 (Ne.symm ne_g_bp2)
  have V_bo2 := V_bo2.other W_16 (Ne.symm ne_g_bo2)
  have V_bf2 := V_bf2.other W_16 (Ne.symm ne_g_bf2)
  have N_16 := Fr.snoc X_16 N_15 le_n0_g
  refine hst st_16 ?_
  show G (T_16.setTop (mkF mI 73 #[.val (.ref g), .val (.ref ir), .val (.ref pi), .val (.ref gl), .val (.ref t1), .val (.ref t2), .val (.ref lf), .val (.ref px)] []))
  refine o_aloadN hst X_16.here hx (hb hby drg_73) (pc' := 74) rfl rfl rfl ?_
  refine o_aload hst X_16.here hx (hb hby drg_74) (pc' := 76) rfl rfl rfl ?_
  obtain ⟨cq_17, kq_17, q_17a, q_17b, q_17c⟩ := isOf hZ e_16 E_t2
  obtain ⟨_, _, ⟨T_17, L_17, k_17, n_17⟩, -, X_17, ⟨Lc_17, hQ_17, l_17, y_17, z_17⟩, st_17⟩ := X_16.virtualBack hx (y := (⟨own_TT, "memberships", "()Lcom/example/weser/weser/core/Memberships;"⟩ : MethodName)) (z := (⟨own_TT, "memberships", "()Lcom/example/weser/weser/core/Memberships;"⟩ : MethodName)) hown (mvT hZ (own_w195 hw)) (mvT hZ (own_w196 hw)) (notFace_of_selects (args := #[]) (mvT hZ (own_w198 hw))) (mvT hZ (own_w198 hw)) (mvT hZ (own_w197 hw)) (by decide) (backOf (W := 1) (rmM3 lL Z a0 hw [] t2 s2 m2 bf2 k_bf2 w0 w1 w2 h_16 n0 Z0 E_t2 F_size_t2 F_otherGraphs_t2 F_firstGraphs_t2 V_bf2 E_s2 F_map_s2 E_m2 F_size_m2 F_keySet_m2 F_head_m2 F_modCount_m2 le_n0_m2) hZ (own_w199 hw) (own_w31 hw) (by decide) (by decide)) q_17a q_17c (g := (mkF mI 76 #[.val (.ref g), .val (.ref ir), .val (.ref pi), .val (.ref gl), .val (.ref t1), .val (.ref t2), .val (.ref lf), .val (.ref px)] [(.ref t2), (.ref g)])) rfl (by rw [hml]; rfl) (Steps.refl _) (argsL := []) (rest := [(.ref g)]) (lenOf pd_18 rfl) rfl (by show 2 * 0 + _ ≤ _; exact Nat.le_of_eq rfl) (hb hby drg_76) (fun _ _ => ⟨rfl, e_16, (by decide : 10 + 5 ≤ _), (by decide : 15 + 15 ≤ _)⟩)
  dsimp only [Pt.U, Pt.locs, Pt.cells, Pt.slots] at X_17 l_17 y_17 z_17 st_17 hQ_17
  subst l_17 y_17 z_17
  obtain ⟨mb, ks2, rfl, N_17q, K_17, le_ks2, GF_size_m, GF_keySet_m, GF_head_m, GF_modCount_m, GE_ks, GF_this_0_ks, GF_reversed_ks⟩ := hQ_17
  have ne_g_ks2 : g ≠ ks2 := Nat.ne_of_lt (Nat.lt_of_lt_of_le F_literalMemberships_g.lt le_ks2)
  have ne_t1_ks2 : t1 ≠ ks2 := Nat.ne_of_lt (Nat.lt_of_lt_of_le E_t1.lt le_ks2)
  have ne_s1_ks2 : s1 ≠ ks2 := Nat.ne_of_lt (Nat.lt_of_lt_of_le E_s1.lt le_ks2)
  have ne_m1_ks2 : m1 ≠ ks2 := Nat.ne_of_lt (Nat.lt_of_lt_of_le E_m1.lt le_ks2)
  have ne_bs1_ks2 : bs1 ≠ ks2 := Nat.ne_of_lt (Nat.lt_of_lt_of_le V_bs1.lt le_ks2)
  have ne_bp1_ks2 : bp1 ≠ ks2 := Nat.ne_of_lt (Nat.lt_of_lt_of_le V_bp1.lt le_ks2)
  have ne_bo1_ks2 : bo1 ≠ ks2 := Nat.ne_of_lt (Nat.lt_of_lt_of_le V_bo1.lt le_ks2)
  have ne_bf1_ks2 : bf1 ≠ ks2 := Nat.ne_of_lt (Nat.lt_of_lt_of_le V_bf1.lt le_ks2)
  have ne_t2_ks2 : t2 ≠ ks2 := Nat.ne_of_lt (Nat.lt_of_lt_of_le E_t2.lt le_ks2)
  have ne_s2_ks2 : s2 ≠ ks2 := Nat.ne_of_lt (Nat.lt_of_lt_of_le E_s2.lt le_ks2)
  have ne_m2_ks2 : m2 ≠ ks2 := Nat.ne_of_lt (Nat.lt_of_lt_of_le E_m2.lt le_ks2)
  have ne_bs2_ks2 : bs2 ≠ ks2 := Nat.ne_of_lt (Nat.lt_of_lt_of_le V_bs2.lt le_ks2)
  have ne_bp2_ks2 : bp2 ≠ ks2 := Nat.ne_of_lt (Nat.lt_of_lt_of_le V_bp2.lt le_ks2)
  have ne_bo2_ks2 : bo2 ≠ ks2 := Nat.ne_of_lt (Nat.lt_of_lt_of_le V_bo2.lt le_ks2)
  have ne_bf2_ks2 : bf2 ≠ ks2 := Nat.ne_of_lt (Nat.lt_of_lt_of_le V_bf2.lt le_ks2)
  have ne_t1_m2 : t1 ≠ m2 := ne_exa E_t1 E_m2 (by decide)
  have ne_s1_m2 : s1 ≠ m2 := ne_exa E_s1 E_m2 (by decide)
  have ne_bs1_m2 : bs1 ≠ m2 := Ne.symm (own_ne_arv E_m2 (own_w72 hw) V_bs1)
  have ne_bp1_m2 : bp1 ≠ m2 := Ne.symm (own_ne_arv E_m2 (own_w72 hw) V_bp1)
  have ne_bo1_m2 : bo1 ≠ m2 := Ne.symm (own_ne_arv E_m2 (own_w72 hw) V_bo1)
  have ne_bf1_m2 : bf1 ≠ m2 := Ne.symm (own_ne_arv E_m2 (own_w72 hw) V_bf1)
  have ne_t2_m2 : t2 ≠ m2 := ne_exa E_t2 E_m2 (by decide)
  have ne_s2_m2 : s2 ≠ m2 := ne_exa E_s2 E_m2 (by decide)
  have ne_bs2_m2 : bs2 ≠ m2 := Ne.symm (own_ne_arv E_m2 (own_w72 hw) V_bs2)
  have ne_bp2_m2 : bp2 ≠ m2 := Ne.symm (own_ne_arv E_m2 (own_w72 hw) V_bp2)
  have ne_bo2_m2 : bo2 ≠ m2 := Ne.symm (own_ne_arv E_m2 (own_w72 hw) V_bo2)
  have ne_bf2_m2 : bf2 ≠ m2 := Ne.symm (own_ne_arv E_m2 (own_w72 hw) V_bf2)
  have Z0 := Nat.le_trans Z0 K_17.1
  have Z1 := Nat.le_trans Z1 K_17.1
  have K0 := K0.trans K_17 (allS (Or.inl (List.mem_of_getElem? (i := 2) rfl)) all0)
  have F_literalMemberships_g := F_literalMemberships_g.keep K_17 (ninS ne_g_m2 nin0)
  have F_literalObjects_g := F_literalObjects_g.keep K_17 (ninS ne_g_m2 nin0)
  have F_lexicalForms_g := F_lexicalForms_g.keep K_17 (ninS ne_g_m2 nin0)
  have F_prefixes_g := F_prefixes_g.keep K_17 (ninS ne_g_m2 nin0)
  have E_g := E_g.keep K_17
  have E_t1 := E_t1.keep K_17
  have F_subjects_t1 := F_subjects_t1.keep K_17 (ninS ne_t1_m2 nin0)
  have F_predicates_t1 := F_predicates_t1.keep K_17 (ninS ne_t1_m2 nin0)
  have F_objects_t1 := F_objects_t1.keep K_17 (ninS ne_t1_m2 nin0)
  have F_firstGraphs_t1 := F_firstGraphs_t1.keep K_17 (ninS ne_t1_m2 nin0)
  have F_otherGraphs_t1 := F_otherGraphs_t1.keep K_17 (ninS ne_t1_m2 nin0)
  have F_size_t1 := F_size_t1.keep K_17 (ninS ne_t1_m2 nin0)
  have E_s1 := E_s1.keep K_17
  have F_map_s1 := F_map_s1.keep K_17 (ninS ne_s1_m2 nin0)
  have E_m1 := E_m1.keep K_17
  have V_bs1 := V_bs1.keep K_17 (ninS ne_bs1_m2 nin0)
  have V_bp1 := V_bp1.keep K_17 (ninS ne_bp1_m2 nin0)
  have V_bo1 := V_bo1.keep K_17 (ninS ne_bo1_m2 nin0)
  have V_bf1 := V_bf1.keep K_17 (ninS ne_bf1_m2 nin0)
  have E_t2 := E_t2.keep K_17
  have F_subjects_t2 := F_subjects_t2.keep K_17 (ninS ne_t2_m2 nin0)
  have F_predicates_t2 := F_predicates_t2.keep K_17 (ninS ne_t2_m2 nin0)
  have F_objects_t2 := F_objects_t2.keep K_17 (ninS ne_t2_m2 nin0)
  have F_firstGraphs_t2 := F_firstGraphs_t2.keep K_17 (ninS ne_t2_m2 nin0)
  have F_otherGraphs_t2 := F_otherGraphs_t2.keep K_17 (ninS ne_t2_m2 nin0)
  have F_size_t2 := F_size_t2.keep K_17 (ninS ne_t2_m2 nin0)
  have E_s2 := E_s2.keep K_17
  have F_map_s2 := F_map_s2.keep K_17 (ninS ne_s2_m2 nin0)
  have E_m2 := E_m2.keep K_17
  have V_bs2 := V_bs2.keep K_17 (ninS ne_bs2_m2 nin0)
  have V_bp2 := V_bp2.keep K_17 (ninS ne_bp2_m2 nin0)
  have V_bo2 := V_bo2.keep K_17 (ninS ne_bo2_m2 nin0)
  have V_bf2 := V_bf2.keep K_17 (ninS ne_bf2_m2 nin0)
  have N_17 := Fr.app N_16 N_17q
  refine hst (fun _ kt => st_17.trans kt) ?_
  show G (T_17.setTop (mkF mI 79 #[.val (.ref g), .val (.ref ir), .val (.ref pi), .val (.ref gl), .val (.ref t1), .val (.ref t2), .val (.ref lf), .val (.ref px)] [(.ref mb), (.ref g)]))
  obtain ⟨T_18, h_18, X_18, e_18, W_18, st_18⟩ := putF X_17 hx hZ hown (host := "") (Or.inl (own_w319 hw)) Via.refl rfl F_literalMemberships_g E_g (Or.inr ⟨(own_w320 hw), rfl, hnm⟩) (own_w132 hw) (ty := (.object own_MB)) (by decide) rfl rfl (g := (mkF mI 79 #[.val (.ref g), .val (.ref ir), .val (.ref pi), .val (.ref gl), .val (.ref t1), .val (.ref t2), .val (.ref lf), .val (.ref px)] [(.ref mb), (.ref g)])) rfl rfl (hb hby drg_79)
  have Z0 := Nat.le_trans Z0 (Keep.of_wr W_18).1
  have Z1 := Nat.le_trans Z1 (Keep.of_wr W_18).1
  have K0 := K0.wr W_18 (Or.inl (List.mem_of_getElem? (i := 0) rfl))
  have F_literalMemberships_g := F_literalMemberships_g.same W_18
  have F_literalObjects_g := F_literalObjects_g.other W_18 (Or.inr (slot_ne (Or.inr (own_w322 hw)) (Or.inr (own_w320 hw)) (by decide) (t := (.array .int)) (t' := (.object own_MB)) (by decide) (by decide)))
  have F_lexicalForms_g := F_lexicalForms_g.other W_18 (Or.inr (slot_ne (Or.inr (own_w324 hw)) (Or.inr (own_w320 hw)) (by decide) (t := (.array (.object "java/lang/String"))) (t' := (.object own_MB)) (by decide) (by decide)))
  have F_prefixes_g := F_prefixes_g.other W_18 (Or.inr (slot_ne (Or.inr (own_w326 hw)) (Or.inr (own_w320 hw)) (by decide) (t := (.object own_PX)) (t' := (.object own_MB)) (by decide) (by decide)))
  have E_g := E_g.wr W_18
  have E_t1 := E_t1.wr W_18
  have F_subjects_t1 := F_subjects_t1.other W_18 (Or.inl (Ne.symm ne_g_t1))
  have F_predicates_t1 := F_predicates_t1.other W_18 (Or.inl (Ne.symm ne_g_t1))
  have F_objects_t1 := F_objects_t1.other W_18 (Or.inl (Ne.symm ne_g_t1))
  have F_firstGraphs_t1 := F_firstGraphs_t1.other W_18 (Or.inl (Ne.symm ne_g_t1))
  have F_otherGraphs_t1 := F_otherGraphs_t1.other W_18 (Or.inl (Ne.symm ne_g_t1))
  have F_size_t1 := F_size_t1.other W_18 (Or.inl (Ne.symm ne_g_t1))
  have E_s1 := E_s1.wr W_18
  have F_map_s1 := F_map_s1.other W_18 (Or.inl (Ne.symm ne_g_s1))
  have E_m1 := E_m1.wr W_18
  have V_bs1 := V_bs1.other W_18 (Ne.symm ne_g_bs1)
  have V_bp1 := V_bp1.other W_18 (Ne.symm ne_g_bp1)
  have V_bo1 := V_bo1.other W_18 (Ne.symm ne_g_bo1)
  have V_bf1 := V_bf1.other W_18 (Ne.symm ne_g_bf1)
  have E_t2 := E_t2.wr W_18
  have F_subjects_t2 := F_subjects_t2.other W_18 (Or.inl (Ne.symm ne_g_t2))
  have F_predicates_t2 := F_predicates_t2.other W_18 (Or.inl (Ne.symm ne_g_t2))
  have F_objects_t2 := F_objects_t2.other W_18 (Or.inl (Ne.symm ne_g_t2))
  have F_firstGraphs_t2 := F_firstGraphs_t2.other W_18 (Or.inl (Ne.symm ne_g_t2))
  have F_otherGraphs_t2 := F_otherGraphs_t2.other W_18 (Or.inl (Ne.symm ne_g_t2))
  have F_size_t2 := F_size_t2.other W_18 (Or.inl (Ne.symm ne_g_t2))
  have E_s2 := E_s2.wr W_18
  have F_map_s2 := F_map_s2.other W_18 (Or.inl (Ne.symm ne_g_s2))
  have E_m2 := E_m2.wr W_18
  have V_bs2 := V_bs2.other W_18 (Ne.symm ne_g_bs2)
  have V_bp2 := V_bp2.other W_18 (Ne.symm ne_g_bp2)
  have V_bo2 := V_bo2.other W_18 (Ne.symm ne_g_bo2)
  have V_bf2 := V_bf2.other W_18 (Ne.symm ne_g_bf2)
  have N_18 := Fr.snoc X_18 N_17 le_n0_g
  refine hst st_18 ?_
  show G (T_18.setTop (mkF mI 82 #[.val (.ref g), .val (.ref ir), .val (.ref pi), .val (.ref gl), .val (.ref t1), .val (.ref t2), .val (.ref lf), .val (.ref px)] []))
  refine o_aloadN hst X_18.here hx (hb hby drg_82) (pc' := 83) rfl rfl rfl ?_
  refine o_aload hst X_18.here hx (hb hby drg_83) (pc' := 85) rfl rfl rfl ?_
  obtain ⟨cq_19, kq_19, q_19a, q_19b, q_19c⟩ := isOf hZ e_18 E_t2
  obtain ⟨_, _, ⟨T_19, L_19, k_19, n_19⟩, -, X_19, ⟨Lc_19, hQ_19, l_19, y_19, z_19⟩, st_19⟩ := X_18.virtualBack hx (y := (⟨own_TT, "objects", "()[I"⟩ : MethodName)) (z := (⟨own_TT, "objects", "()[I"⟩ : MethodName)) hown (mvT hZ (own_w188 hw)) (mvT hZ (own_w189 hw)) (notFace_of_selects (args := #[]) (mvT hZ (own_w191 hw))) (mvT hZ (own_w191 hw)) (mvT hZ (own_w190 hw)) (by decide) (backOf (W := 1) (rmgbo3 lL Z a0 hw [] t2 bo2 k_bo2 z0 z1 z2 h_18 n0 Z0 F_objects_t2 F_size_t2 V_bo2) hZ (own_w192 hw) (own_w31 hw) (by decide) (by decide)) q_19a q_19c (g := (mkF mI 85 #[.val (.ref g), .val (.ref ir), .val (.ref pi), .val (.ref gl), .val (.ref t1), .val (.ref t2), .val (.ref lf), .val (.ref px)] [(.ref t2), (.ref g)])) rfl (by rw [hml]; rfl) (Steps.refl _) (argsL := []) (rest := [(.ref g)]) (lenOf pd_17 rfl) rfl (by show 2 * 0 + _ ≤ _; exact Nat.le_of_eq rfl) (hb hby drg_85) (fun _ _ => ⟨rfl, e_18, (by decide : 15 + 1 ≤ _), (by decide : 30 + 3 ≤ _)⟩)
  dsimp only [Pt.U, Pt.locs, Pt.cells, Pt.slots] at X_19 l_19 y_19 z_19 st_19 hQ_19
  subst l_19 y_19 z_19
  obtain ⟨c_19, kc_19, rfl, N_19q, K_19, le_c_19, V_c_19⟩ := hQ_19
  have ne_g_c_19 : g ≠ c_19 := Nat.ne_of_lt (Nat.lt_of_lt_of_le E_g.lt le_c_19)
  have le_hh_c_19 := Nat.le_trans Z1 le_c_19
  have Z0 := Nat.le_trans Z0 K_19.1
  have Z1 := Nat.le_trans Z1 K_19.1
  have K0 := K0.trans K_19 all0
  have F_literalObjects_g := F_literalObjects_g.keep K_19 nin0
  have F_lexicalForms_g := F_lexicalForms_g.keep K_19 nin0
  have F_prefixes_g := F_prefixes_g.keep K_19 nin0
  have E_g := E_g.keep K_19
  have E_t1 := E_t1.keep K_19
  have F_subjects_t1 := F_subjects_t1.keep K_19 nin0
  have F_predicates_t1 := F_predicates_t1.keep K_19 nin0
  have F_objects_t1 := F_objects_t1.keep K_19 nin0
  have F_firstGraphs_t1 := F_firstGraphs_t1.keep K_19 nin0
  have F_otherGraphs_t1 := F_otherGraphs_t1.keep K_19 nin0
  have F_size_t1 := F_size_t1.keep K_19 nin0
  have E_s1 := E_s1.keep K_19
  have F_map_s1 := F_map_s1.keep K_19 nin0
  have E_m1 := E_m1.keep K_19
  have V_bs1 := V_bs1.keep K_19 nin0
  have V_bp1 := V_bp1.keep K_19 nin0
  have V_bo1 := V_bo1.keep K_19 nin0
  have V_bf1 := V_bf1.keep K_19 nin0
  have E_t2 := E_t2.keep K_19
  have F_subjects_t2 := F_subjects_t2.keep K_19 nin0
  have F_predicates_t2 := F_predicates_t2.keep K_19 nin0
  have F_objects_t2 := F_objects_t2.keep K_19 nin0
  have F_firstGraphs_t2 := F_firstGraphs_t2.keep K_19 nin0
  have F_otherGraphs_t2 := F_otherGraphs_t2.keep K_19 nin0
  have F_size_t2 := F_size_t2.keep K_19 nin0
  have E_s2 := E_s2.keep K_19
  have F_map_s2 := F_map_s2.keep K_19 nin0
  have E_m2 := E_m2.keep K_19
  have V_bs2 := V_bs2.keep K_19 nin0
  have V_bp2 := V_bp2.keep K_19 nin0
  have V_bo2 := V_bo2.keep K_19 nin0
  have V_bf2 := V_bf2.keep K_19 nin0
  have N_19 := Fr.app N_18 N_19q
  refine hst (fun _ kt => st_19.trans kt) ?_
  show G (T_19.setTop (mkF mI 88 #[.val (.ref g), .val (.ref ir), .val (.ref pi), .val (.ref gl), .val (.ref t1), .val (.ref t2), .val (.ref lf), .val (.ref px)] [(.ref c_19), (.ref g)]))
  obtain ⟨T_20, h_20, X_20, e_20, W_20, st_20⟩ := putF X_19 hx hZ hown (host := "") (Or.inl (own_w321 hw)) Via.refl rfl F_literalObjects_g E_g (Or.inr ⟨(own_w322 hw), rfl, hnm⟩) (own_w132 hw) (ty := (.array .int)) (by decide) rfl rfl (g := (mkF mI 88 #[.val (.ref g), .val (.ref ir), .val (.ref pi), .val (.ref gl), .val (.ref t1), .val (.ref t2), .val (.ref lf), .val (.ref px)] [(.ref c_19), (.ref g)])) rfl rfl (hb hby drg_88)
  have Z0 := Nat.le_trans Z0 (Keep.of_wr W_20).1
  have Z1 := Nat.le_trans Z1 (Keep.of_wr W_20).1
  have K0 := K0.wr W_20 (Or.inl (List.mem_of_getElem? (i := 0) rfl))
  have F_literalObjects_g := F_literalObjects_g.same W_20
  have F_lexicalForms_g := F_lexicalForms_g.other W_20 (Or.inr (slot_ne (Or.inr (own_w324 hw)) (Or.inr (own_w322 hw)) (by decide) (t := (.array (.object "java/lang/String"))) (t' := (.array .int)) (by decide) (by decide)))
  have F_prefixes_g := F_prefixes_g.other W_20 (Or.inr (slot_ne (Or.inr (own_w326 hw)) (Or.inr (own_w322 hw)) (by decide) (t := (.object own_PX)) (t' := (.array .int)) (by decide) (by decide)))
  have E_g := E_g.wr W_20
  have E_t1 := E_t1.wr W_20
  have F_subjects_t1 := F_subjects_t1.other W_20 (Or.inl (Ne.symm ne_g_t1))
  have F_predicates_t1 := F_predicates_t1.other W_20 (Or.inl (Ne.symm ne_g_t1))
  have F_objects_t1 := F_objects_t1.other W_20 (Or.inl (Ne.symm ne_g_t1))
  have F_firstGraphs_t1 := F_firstGraphs_t1.other W_20 (Or.inl (Ne.symm ne_g_t1))
  have F_otherGraphs_t1 := F_otherGraphs_t1.other W_20 (Or.inl (Ne.symm ne_g_t1))
  have F_size_t1 := F_size_t1.other W_20 (Or.inl (Ne.symm ne_g_t1))
  have E_s1 := E_s1.wr W_20
  have F_map_s1 := F_map_s1.other W_20 (Or.inl (Ne.symm ne_g_s1))
  have E_m1 := E_m1.wr W_20
  have V_bs1 := V_bs1.other W_20 (Ne.symm ne_g_bs1)
  have V_bp1 := V_bp1.other W_20 (Ne.symm ne_g_bp1)
  have V_bo1 := V_bo1.other W_20 (Ne.symm ne_g_bo1)
  have V_bf1 := V_bf1.other W_20 (Ne.symm ne_g_bf1)
  have E_t2 := E_t2.wr W_20
  have F_subjects_t2 := F_subjects_t2.other W_20 (Or.inl (Ne.symm ne_g_t2))
  have F_predicates_t2 := F_predicates_t2.other W_20 (Or.inl (Ne.symm ne_g_t2))
  have F_objects_t2 := F_objects_t2.other W_20 (Or.inl (Ne.symm ne_g_t2))
  have F_firstGraphs_t2 := F_firstGraphs_t2.other W_20 (Or.inl (Ne.symm ne_g_t2))
  have F_otherGraphs_t2 := F_otherGraphs_t2.other W_20 (Or.inl (Ne.symm ne_g_t2))
  have F_size_t2 := F_size_t2.other W_20 (Or.inl (Ne.symm ne_g_t2))
  have E_s2 := E_s2.wr W_20
  have F_map_s2 := F_map_s2.other W_20 (Or.inl (Ne.symm ne_g_s2))
  have E_m2 := E_m2.wr W_20
  have V_bs2 := V_bs2.other W_20 (Ne.symm ne_g_bs2)
  have V_bp2 := V_bp2.other W_20 (Ne.symm ne_g_bp2)
  have V_bo2 := V_bo2.other W_20 (Ne.symm ne_g_bo2)
  have V_bf2 := V_bf2.other W_20 (Ne.symm ne_g_bf2)
  have V_c_19 := V_c_19.other W_20 (Ne.symm ne_g_c_19)
  have N_20 := Fr.snoc X_20 N_19 le_n0_g
  refine hst st_20 ?_
  show G (T_20.setTop (mkF mI 91 #[.val (.ref g), .val (.ref ir), .val (.ref pi), .val (.ref gl), .val (.ref t1), .val (.ref t2), .val (.ref lf), .val (.ref px)] []))
  refine o_aloadN hst X_20.here hx (hb hby drg_91) (pc' := 92) rfl rfl rfl ?_
  refine o_aload hst X_20.here hx (hb hby drg_92) (pc' := 94) rfl rfl rfl ?_
  obtain ⟨T_21, h_21, X_21, e_21, W_21, st_21⟩ := putF X_20 hx hZ hown (host := "") (Or.inl (own_w323 hw)) Via.refl e_20 F_lexicalForms_g E_g (Or.inr ⟨(own_w324 hw), rfl, hnm⟩) (own_w132 hw) (ty := (.array (.object "java/lang/String"))) (by decide) rfl rfl (g := (mkF mI 94 #[.val (.ref g), .val (.ref ir), .val (.ref pi), .val (.ref gl), .val (.ref t1), .val (.ref t2), .val (.ref lf), .val (.ref px)] [(.ref lf), (.ref g)])) rfl rfl (hb hby drg_94)
  have Z0 := Nat.le_trans Z0 (Keep.of_wr W_21).1
  have Z1 := Nat.le_trans Z1 (Keep.of_wr W_21).1
  have K0 := K0.wr W_21 (Or.inl (List.mem_of_getElem? (i := 0) rfl))
  have F_literalObjects_g := F_literalObjects_g.other W_21 (Or.inr (slot_ne (Or.inr (own_w322 hw)) (Or.inr (own_w324 hw)) (by decide) (t := (.array .int)) (t' := (.array (.object "java/lang/String"))) (by decide) (by decide)))
  have F_lexicalForms_g := F_lexicalForms_g.same W_21
  have F_prefixes_g := F_prefixes_g.other W_21 (Or.inr (slot_ne (Or.inr (own_w326 hw)) (Or.inr (own_w324 hw)) (by decide) (t := (.object own_PX)) (t' := (.array (.object "java/lang/String"))) (by decide) (by decide)))
  have E_g := E_g.wr W_21
  have E_t1 := E_t1.wr W_21
  have F_subjects_t1 := F_subjects_t1.other W_21 (Or.inl (Ne.symm ne_g_t1))
  have F_predicates_t1 := F_predicates_t1.other W_21 (Or.inl (Ne.symm ne_g_t1))
  have F_objects_t1 := F_objects_t1.other W_21 (Or.inl (Ne.symm ne_g_t1))
  have F_firstGraphs_t1 := F_firstGraphs_t1.other W_21 (Or.inl (Ne.symm ne_g_t1))
  have F_otherGraphs_t1 := F_otherGraphs_t1.other W_21 (Or.inl (Ne.symm ne_g_t1))
  have F_size_t1 := F_size_t1.other W_21 (Or.inl (Ne.symm ne_g_t1))
  have E_s1 := E_s1.wr W_21
  have F_map_s1 := F_map_s1.other W_21 (Or.inl (Ne.symm ne_g_s1))
  have E_m1 := E_m1.wr W_21
  have V_bs1 := V_bs1.other W_21 (Ne.symm ne_g_bs1)
  have V_bp1 := V_bp1.other W_21 (Ne.symm ne_g_bp1)
  have V_bo1 := V_bo1.other W_21 (Ne.symm ne_g_bo1)
  have V_bf1 := V_bf1.other W_21 (Ne.symm ne_g_bf1)
  have E_t2 := E_t2.wr W_21
  have F_subjects_t2 := F_subjects_t2.other W_21 (Or.inl (Ne.symm ne_g_t2))
  have F_predicates_t2 := F_predicates_t2.other W_21 (Or.inl (Ne.symm ne_g_t2))
  have F_objects_t2 := F_objects_t2.other W_21 (Or.inl (Ne.symm ne_g_t2))
  have F_firstGraphs_t2 := F_firstGraphs_t2.other W_21 (Or.inl (Ne.symm ne_g_t2))
  have F_otherGraphs_t2 := F_otherGraphs_t2.other W_21 (Or.inl (Ne.symm ne_g_t2))
  have F_size_t2 := F_size_t2.other W_21 (Or.inl (Ne.symm ne_g_t2))
  have E_s2 := E_s2.wr W_21
  have F_map_s2 := F_map_s2.other W_21 (Or.inl (Ne.symm ne_g_s2))
  have E_m2 := E_m2.wr W_21
  have V_bs2 := V_bs2.other W_21 (Ne.symm ne_g_bs2)
  have V_bp2 := V_bp2.other W_21 (Ne.symm ne_g_bp2)
  have V_bo2 := V_bo2.other W_21 (Ne.symm ne_g_bo2)
  have V_bf2 := V_bf2.other W_21 (Ne.symm ne_g_bf2)
  have V_c_19 := V_c_19.other W_21 (Ne.symm ne_g_c_19)
  have N_21 := Fr.snoc X_21 N_20 le_n0_g
  refine hst st_21 ?_
  show G (T_21.setTop (mkF mI 97 #[.val (.ref g), .val (.ref ir), .val (.ref pi), .val (.ref gl), .val (.ref t1), .val (.ref t2), .val (.ref lf), .val (.ref px)] []))
  refine o_aloadN hst X_21.here hx (hb hby drg_97) (pc' := 98) rfl rfl rfl ?_
  refine o_aload hst X_21.here hx (hb hby drg_98) (pc' := 100) rfl rfl rfl ?_
  obtain ⟨T_22, h_22, X_22, e_22, W_22, st_22⟩ := putF X_21 hx hZ hown (host := "") (Or.inl (own_w325 hw)) Via.refl e_21 F_prefixes_g E_g (Or.inr ⟨(own_w326 hw), rfl, hnm⟩) (own_w132 hw) (ty := (.object own_PX)) (by decide) rfl rfl (g := (mkF mI 100 #[.val (.ref g), .val (.ref ir), .val (.ref pi), .val (.ref gl), .val (.ref t1), .val (.ref t2), .val (.ref lf), .val (.ref px)] [(.ref px), (.ref g)])) rfl rfl (hb hby drg_100)
  have Z0 := Nat.le_trans Z0 (Keep.of_wr W_22).1
  have Z1 := Nat.le_trans Z1 (Keep.of_wr W_22).1
  have K0 := K0.wr W_22 (Or.inl (List.mem_of_getElem? (i := 0) rfl))
  have F_literalObjects_g := F_literalObjects_g.other W_22 (Or.inr (slot_ne (Or.inr (own_w322 hw)) (Or.inr (own_w326 hw)) (by decide) (t := (.array .int)) (t' := (.object own_PX)) (by decide) (by decide)))
  have F_lexicalForms_g := F_lexicalForms_g.other W_22 (Or.inr (slot_ne (Or.inr (own_w324 hw)) (Or.inr (own_w326 hw)) (by decide) (t := (.array (.object "java/lang/String"))) (t' := (.object own_PX)) (by decide) (by decide)))
  have F_prefixes_g := F_prefixes_g.same W_22
  have E_g := E_g.wr W_22
  have E_t1 := E_t1.wr W_22
  have F_subjects_t1 := F_subjects_t1.other W_22 (Or.inl (Ne.symm ne_g_t1))
  have F_predicates_t1 := F_predicates_t1.other W_22 (Or.inl (Ne.symm ne_g_t1))
  have F_objects_t1 := F_objects_t1.other W_22 (Or.inl (Ne.symm ne_g_t1))
  have F_firstGraphs_t1 := F_firstGraphs_t1.other W_22 (Or.inl (Ne.symm ne_g_t1))
  have F_otherGraphs_t1 := F_otherGraphs_t1.other W_22 (Or.inl (Ne.symm ne_g_t1))
  have F_size_t1 := F_size_t1.other W_22 (Or.inl (Ne.symm ne_g_t1))
  have E_s1 := E_s1.wr W_22
  have F_map_s1 := F_map_s1.other W_22 (Or.inl (Ne.symm ne_g_s1))
  have E_m1 := E_m1.wr W_22
  have V_bs1 := V_bs1.other W_22 (Ne.symm ne_g_bs1)
  have V_bp1 := V_bp1.other W_22 (Ne.symm ne_g_bp1)
  have V_bo1 := V_bo1.other W_22 (Ne.symm ne_g_bo1)
  have V_bf1 := V_bf1.other W_22 (Ne.symm ne_g_bf1)
  have E_t2 := E_t2.wr W_22
  have F_subjects_t2 := F_subjects_t2.other W_22 (Or.inl (Ne.symm ne_g_t2))
  have F_predicates_t2 := F_predicates_t2.other W_22 (Or.inl (Ne.symm ne_g_t2))
  have F_objects_t2 := F_objects_t2.other W_22 (Or.inl (Ne.symm ne_g_t2))
  have F_firstGraphs_t2 := F_firstGraphs_t2.other W_22 (Or.inl (Ne.symm ne_g_t2))
  have F_otherGraphs_t2 := F_otherGraphs_t2.other W_22 (Or.inl (Ne.symm ne_g_t2))
  have F_size_t2 := F_size_t2.other W_22 (Or.inl (Ne.symm ne_g_t2))
  have E_s2 := E_s2.wr W_22
  have F_map_s2 := F_map_s2.other W_22 (Or.inl (Ne.symm ne_g_s2))
  have E_m2 := E_m2.wr W_22
  have V_bs2 := V_bs2.other W_22 (Ne.symm ne_g_bs2)
  have V_bp2 := V_bp2.other W_22 (Ne.symm ne_g_bp2)
  have V_bo2 := V_bo2.other W_22 (Ne.symm ne_g_bo2)
  have V_bf2 := V_bf2.other W_22 (Ne.symm ne_g_bf2)
  have V_c_19 := V_c_19.other W_22 (Ne.symm ne_g_c_19)
  have N_22 := Fr.snoc X_22 N_21 le_n0_g
  refine hst st_22 ?_
  show G (T_22.setTop (mkF mI 103 #[.val (.ref g), .val (.ref ir), .val (.ref pi), .val (.ref gl), .val (.ref t1), .val (.ref t2), .val (.ref lf), .val (.ref px)] []))
  exact hend (own_goVoid X_22 hx Bd.returns (hb hby drg_103) Bd.notSynchronized (by rw [e_22]; exact ⟨rfl, N_22, K0, E_g, c_19, kc_19, le_hh_c_19, F_literalObjects_g, V_c_19, F_lexicalForms_g⟩) (by decide) (by decide))
theorem dha_0 : decode prog_37_method_8_code 0 = .ok (.iload_n 0, 1) := by decide +kernel
theorem dha_1 : decode prog_37_method_8_code 1 = .ok (.ldc 88, 2) := by decide +kernel
theorem dha_3 : decode prog_37_method_8_code 3 = .ok (.imul, 1) := by decide +kernel
theorem dha_4 : decode prog_37_method_8_code 4 = .ok (.iload_n 1, 1) := by decide +kernel
theorem dha_5 : decode prog_37_method_8_code 5 = .ok (.ldc 89, 2) := by decide +kernel
theorem dha_7 : decode prog_37_method_8_code 7 = .ok (.imul, 1) := by decide +kernel
theorem dha_8 : decode prog_37_method_8_code 8 = .ok (.iadd, 1) := by decide +kernel
theorem dha_9 : decode prog_37_method_8_code 9 = .ok (.iload_n 2, 1) := by decide +kernel
theorem dha_10 : decode prog_37_method_8_code 10 = .ok (.ldc 90, 2) := by decide +kernel
theorem dha_12 : decode prog_37_method_8_code 12 = .ok (.imul, 1) := by decide +kernel
theorem dha_13 : decode prog_37_method_8_code 13 = .ok (.iadd, 1) := by decide +kernel
theorem dha_14 : decode prog_37_method_8_code 14 = .ok (.istore_n 3, 1) := by decide +kernel
theorem dha_15 : decode prog_37_method_8_code 15 = .ok (.iload_n 3, 1) := by decide +kernel
theorem dha_16 : decode prog_37_method_8_code 16 = .ok (.iload_n 3, 1) := by decide +kernel
theorem dha_17 : decode prog_37_method_8_code 17 = .ok (.bipush 16, 2) := by decide +kernel
theorem dha_19 : decode prog_37_method_8_code 19 = .ok (.iushr, 1) := by decide +kernel
theorem dha_20 : decode prog_37_method_8_code 20 = .ok (.ixor, 1) := by decide +kernel
theorem dha_21 : decode prog_37_method_8_code 21 = .ok (.ireturn, 1) := by decide +kernel
theorem ef_ha (mI : MethodId) (s : Int32) (p : Int32) (o : Int32) : entryFrame mI #[(.int s), (.int p), (.int o)] 4 = mkF mI 0 #[.val (.int s), .val (.int p), .val (.int o), .unset] [] := by first | (simp [entryFrame, mkF, argsToLocals, Value.category]; done) | rfl
theorem pn_ha : plainName own_TT = true := by first | decide +kernel | (simp [plainName, overriddenIn]; done)
set_option maxRecDepth 65536 in
set_option maxHeartbeats 40000000 in
theorem rmha (lL : Launch) (Z : State) (a0 : Array Value) (hw : ∀ d ∈ tables_1, d.before a0 Z = true) (ws : List Jvm.Cond) (s : Int32) (p : Int32) (o : Int32) (h0 : Heap) (n0 : Nat) (Z0 : n0 ≤ h0.size) :
    MetFree lL (⟨own_TT, "hash", "(III)I"⟩ : MethodName) (head1 (Jvm.Cond.code (⟨own_TT, "hash", "(III)I"⟩ : MethodName) prog_37_method_8_code 4 (some .int) :: ws) ({ frames := 0, cells := 0, slots := 0, locals := 0 } : Room)) (fun a_ U_ => a_ = #[(.int s), (.int p), (.int o)] ∧ Z.Warmed39 U_.vm ∧ U_.heap = h0) (fun _ _ _ _ _ => True) (fun _ U_ o_ W_ => ∃ v_ L_, o_ = .returned v_ ∧ own_QI (own_hash s p o) h0 n0 v_ W_.heap L_ ∧ FrameEnd U_ o_ W_ L_ ({ frames := 0, cells := 0, slots := 0, locals := 0 } : Room).cells ({ frames := 0, cells := 0, slots := 0, locals := 0 } : Room).slots) := by
  refine MetFree.of_bodySF (plainFor_of_name pn_ha) hisR ?_
  intro pP eE sS mI args below meth cC s₁ Bd hml0 hP hK
  obtain ⟨rfl, hZ, hh⟩ := hP
  have hx := Bd.exec
  have hby := Bd.bytes
  have hml : cC.maxLocals = 4 := hml0
  have hown : sS.vm.findClass own_TT = some mI.cls := by have z := findClass_of_methodNamed Bd.named; exact z
  have hnm := (name_of_methodNamed Bd.named Bd.method).1
  have X0 : Stand pP lL eE ({ frames := 0, cells := 0, slots := 0, locals := 0 } : Room) sS mI #[(.int s), (.int p), (.int o)] below meth cC s₁ [] 0 0 := Stand.of_body Bd
  have e0 : s₁.heap = h0 := by rw [← hh, Bd.state]; rfl
  have N0 := Fr.nil n0
  obtain ⟨G, hG, hst, hend⟩ := own_abs pP eE below sS (own_QI (own_hash s p o) h0 n0) ({ frames := 0, cells := 0, slots := 0, locals := 0 } : Room).cells ({ frames := 0, cells := 0, slots := 0, locals := 0 } : Room).slots
  refine hG (S := s₁.setTop (entryFrame mI #[(.int s), (.int p), (.int o)] 4)) (hst (fun t_ kt_ => castTop (ef_ha mI s p o) kt_) ?_)
  show G (s₁.setTop (mkF mI 0 #[.val (.int s), .val (.int p), .val (.int o), .unset] []))
  refine o_iloadN hst X0.here hx (hb hby dha_0) (pc' := 1) rfl rfl ?_
  refine hst (X0.ldcInt hx hown (mvT hZ (own_w126 hw)) (g := (mkF mI 1 #[.val (.int s), .val (.int p), .val (.int o), .unset] [(.int s)])) rfl (hb hby dha_1)) ?_
  show G (s₁.setTop (mkF mI 3 #[.val (.int s), .val (.int p), .val (.int o), .unset] [(.int (-1640531527 : Int32)), (.int s)]))
  refine o_imul hst X0.here hx (hb hby dha_3) (pc' := 4) rfl ?_
  refine o_iloadN hst X0.here hx (hb hby dha_4) (pc' := 5) rfl rfl ?_
  refine hst (X0.ldcInt hx hown (mvT hZ (own_w127 hw)) (g := (mkF mI 5 #[.val (.int s), .val (.int p), .val (.int o), .unset] [(.int p), (.int (s * (-1640531527 : Int32)))])) rfl (hb hby dha_5)) ?_
  show G (s₁.setTop (mkF mI 7 #[.val (.int s), .val (.int p), .val (.int o), .unset] [(.int (2146121005 : Int32)), (.int p), (.int (s * (-1640531527 : Int32)))]))
  refine o_imul hst X0.here hx (hb hby dha_7) (pc' := 8) rfl ?_
  refine o_iadd hst X0.here hx (hb hby dha_8) (pc' := 9) rfl ?_
  refine o_iloadN hst X0.here hx (hb hby dha_9) (pc' := 10) rfl rfl ?_
  refine hst (X0.ldcInt hx hown (mvT hZ (own_w128 hw)) (g := (mkF mI 10 #[.val (.int s), .val (.int p), .val (.int o), .unset] [(.int o), (.int ((s * (-1640531527 : Int32)) + (p * (2146121005 : Int32))))])) rfl (hb hby dha_10)) ?_
  show G (s₁.setTop (mkF mI 12 #[.val (.int s), .val (.int p), .val (.int o), .unset] [(.int (-2073254261 : Int32)), (.int o), (.int ((s * (-1640531527 : Int32)) + (p * (2146121005 : Int32))))]))
  refine o_imul hst X0.here hx (hb hby dha_12) (pc' := 13) rfl ?_
  refine o_iadd hst X0.here hx (hb hby dha_13) (pc' := 14) rfl ?_
  show G (s₁.setTop (mkF mI 14 #[.val (.int s), .val (.int p), .val (.int o), .unset] [(.int (own_hx s p o))]))
  refine o_istoreN hst X0.here hx (hb hby dha_14) (pc' := 15) rfl (Lt := #[.val (.int s), .val (.int p), .val (.int o), .val (.int (own_hx s p o))]) rfl ?_
  refine o_iloadN hst X0.here hx (hb hby dha_15) (pc' := 16) rfl rfl ?_
  refine o_iloadN hst X0.here hx (hb hby dha_16) (pc' := 17) rfl rfl ?_
  refine o_bipush hst X0.here hx (hb hby dha_17) (pc' := 19) rfl (z := (16 : Int32)) rfl ?_
  refine o_iushr hst X0.here hx (hb hby dha_19) (pc' := 20) rfl ?_
  refine o_ixor hst X0.here hx (hb hby dha_20) (pc' := 21) rfl ?_
  show G (s₁.setTop (mkF mI 21 #[.val (.int s), .val (.int p), .val (.int o), .val (.int (own_hx s p o))] [(.int (own_hash s p o))]))
  exact hend (own_goRet X0 hx Bd.returns rfl (Or.inl ⟨rfl, by simp, _, rfl⟩) (hb hby dha_21) Bd.notSynchronized (by rw [e0]; exact ⟨rfl, N0, rfl⟩) (by decide) (by decide))
def own_Qad (Z : State) (t : Addr) (sz o : Int32) (sq : Addr) (p : Int32) (sn : Int32) (bs : Addr) (bp : Addr) (bo : Addr) (bf : Addr) (bt : Addr) (k_bs : ClassId) (k_bp : ClassId) (k_bo : ClassId) (k_bf : ClassId) (k_bt : ClassId) (lS : List (Int32 × Value)) (lP : List (Int32 × Value)) (lO : List (Int32 × Value)) (lF : List (Int32 × Value)) (lT : List (Int32 × Value)) (h0 : Heap) (n0 : Nat) (v : Option Value) (h : Heap) (L : List Loc) : Prop := v = none ∧ Fr n0 L ∧ Keep h0 h [t, bs, bp, bo, bf, bt] ∧ Exa Z h t own_TT ∧ Fld Z h t own_TT "subjects" "[I" (.ref bs) ∧ Fld Z h t own_TT "predicates" "[I" (.ref bp) ∧ Fld Z h t own_TT "objects" "[I" (.ref bo) ∧ Fld Z h t own_TT "firstGraphs" "[I" (.ref bf) ∧ Fld Z h t own_TT "table" "[I" (.ref bt) ∧ Fld Z h t own_TT "otherGraphs" "Ljava/util/Set;" (.ref sq) ∧ Fld Z h t own_TT "size" "I" (.int sn) ∧ Arh Z h bs k_bs .int (1024 : Int32) ((sz, (.int sz)) :: lS) [] (.int (0 : Int32)) ∧ Arh Z h bp k_bp .int (1024 : Int32) ((sz, (.int (0 : Int32))) :: lP) [] (.int (0 : Int32)) ∧ Arh Z h bo k_bo .int (1024 : Int32) ((sz, (.int o)) :: lO) [] (.int (0 : Int32)) ∧ Arh Z h bf k_bf .int (1024 : Int32) ((sz, (.int (0 : Int32))) :: lF) [] (.int (0 : Int32)) ∧ Arh Z h bt k_bt .int (2048 : Int32) ((p, (.int sn)) :: lT) [] (.int (0 : Int32))
theorem dad_0 : decode prog_37_method_2_code 0 = .ok (.aload_n 0, 1) := by decide +kernel
theorem dad_1 : decode prog_37_method_2_code 1 = .ok (.getfield 29, 3) := by decide +kernel
theorem dad_4 : decode prog_37_method_2_code 4 = .ok (.arraylength, 1) := by decide +kernel
theorem dad_5 : decode prog_37_method_2_code 5 = .ok (.iconst 1, 1) := by decide +kernel
theorem dad_6 : decode prog_37_method_2_code 6 = .ok (.isub, 1) := by decide +kernel
theorem dad_7 : decode prog_37_method_2_code 7 = .ok (.istore 5, 2) := by decide +kernel
theorem dad_9 : decode prog_37_method_2_code 9 = .ok (.iload_n 1, 1) := by decide +kernel
theorem dad_10 : decode prog_37_method_2_code 10 = .ok (.iload_n 2, 1) := by decide +kernel
theorem dad_11 : decode prog_37_method_2_code 11 = .ok (.iload_n 3, 1) := by decide +kernel
theorem dad_12 : decode prog_37_method_2_code 12 = .ok (.invokestatic 32, 3) := by decide +kernel
theorem dad_15 : decode prog_37_method_2_code 15 = .ok (.iload 5, 2) := by decide +kernel
theorem dad_17 : decode prog_37_method_2_code 17 = .ok (.iand, 1) := by decide +kernel
theorem dad_18 : decode prog_37_method_2_code 18 = .ok (.istore 6, 2) := by decide +kernel
theorem dad_20 : decode prog_37_method_2_code 20 = .ok (.aload_n 0, 1) := by decide +kernel
theorem dad_21 : decode prog_37_method_2_code 21 = .ok (.getfield 29, 3) := by decide +kernel
theorem dad_24 : decode prog_37_method_2_code 24 = .ok (.iload 6, 2) := by decide +kernel
theorem dad_26 : decode prog_37_method_2_code 26 = .ok (.iaload, 1) := by decide +kernel
theorem dad_27 : decode prog_37_method_2_code 27 = .ok (.ifCond .eq 95, 3) := by decide +kernel
theorem dad_122 : decode prog_37_method_2_code 122 = .ok (.aload_n 0, 1) := by decide +kernel
theorem dad_123 : decode prog_37_method_2_code 123 = .ok (.getfield 48, 3) := by decide +kernel
theorem dad_126 : decode prog_37_method_2_code 126 = .ok (.aload_n 0, 1) := by decide +kernel
theorem dad_127 : decode prog_37_method_2_code 127 = .ok (.getfield 9, 3) := by decide +kernel
theorem dad_130 : decode prog_37_method_2_code 130 = .ok (.arraylength, 1) := by decide +kernel
theorem dad_131 : decode prog_37_method_2_code 131 = .ok (.if_icmp .ne 71, 3) := by decide +kernel
theorem dad_202 : decode prog_37_method_2_code 202 = .ok (.aload_n 0, 1) := by decide +kernel
theorem dad_203 : decode prog_37_method_2_code 203 = .ok (.getfield 9, 3) := by decide +kernel
theorem dad_206 : decode prog_37_method_2_code 206 = .ok (.aload_n 0, 1) := by decide +kernel
theorem dad_207 : decode prog_37_method_2_code 207 = .ok (.getfield 48, 3) := by decide +kernel
theorem dad_210 : decode prog_37_method_2_code 210 = .ok (.iload_n 1, 1) := by decide +kernel
theorem dad_211 : decode prog_37_method_2_code 211 = .ok (.iastore, 1) := by decide +kernel
theorem dad_212 : decode prog_37_method_2_code 212 = .ok (.aload_n 0, 1) := by decide +kernel
theorem dad_213 : decode prog_37_method_2_code 213 = .ok (.getfield 13, 3) := by decide +kernel
theorem dad_216 : decode prog_37_method_2_code 216 = .ok (.aload_n 0, 1) := by decide +kernel
theorem dad_217 : decode prog_37_method_2_code 217 = .ok (.getfield 48, 3) := by decide +kernel
theorem dad_220 : decode prog_37_method_2_code 220 = .ok (.iload_n 2, 1) := by decide +kernel
theorem dad_221 : decode prog_37_method_2_code 221 = .ok (.iastore, 1) := by decide +kernel
theorem dad_222 : decode prog_37_method_2_code 222 = .ok (.aload_n 0, 1) := by decide +kernel
theorem dad_223 : decode prog_37_method_2_code 223 = .ok (.getfield 16, 3) := by decide +kernel
theorem dad_226 : decode prog_37_method_2_code 226 = .ok (.aload_n 0, 1) := by decide +kernel
theorem dad_227 : decode prog_37_method_2_code 227 = .ok (.getfield 48, 3) := by decide +kernel
theorem dad_230 : decode prog_37_method_2_code 230 = .ok (.iload_n 3, 1) := by decide +kernel
theorem dad_231 : decode prog_37_method_2_code 231 = .ok (.iastore, 1) := by decide +kernel
theorem dad_232 : decode prog_37_method_2_code 232 = .ok (.aload_n 0, 1) := by decide +kernel
theorem dad_233 : decode prog_37_method_2_code 233 = .ok (.getfield 19, 3) := by decide +kernel
theorem dad_236 : decode prog_37_method_2_code 236 = .ok (.aload_n 0, 1) := by decide +kernel
theorem dad_237 : decode prog_37_method_2_code 237 = .ok (.getfield 48, 3) := by decide +kernel
theorem dad_240 : decode prog_37_method_2_code 240 = .ok (.iload 4, 2) := by decide +kernel
theorem dad_242 : decode prog_37_method_2_code 242 = .ok (.iastore, 1) := by decide +kernel
theorem dad_243 : decode prog_37_method_2_code 243 = .ok (.aload_n 0, 1) := by decide +kernel
theorem dad_244 : decode prog_37_method_2_code 244 = .ok (.dup, 1) := by decide +kernel
theorem dad_245 : decode prog_37_method_2_code 245 = .ok (.getfield 48, 3) := by decide +kernel
theorem dad_248 : decode prog_37_method_2_code 248 = .ok (.iconst 1, 1) := by decide +kernel
theorem dad_249 : decode prog_37_method_2_code 249 = .ok (.iadd, 1) := by decide +kernel
theorem dad_250 : decode prog_37_method_2_code 250 = .ok (.putfield 48, 3) := by decide +kernel
theorem dad_253 : decode prog_37_method_2_code 253 = .ok (.aload_n 0, 1) := by decide +kernel
theorem dad_254 : decode prog_37_method_2_code 254 = .ok (.getfield 29, 3) := by decide +kernel
theorem dad_257 : decode prog_37_method_2_code 257 = .ok (.iload 6, 2) := by decide +kernel
theorem dad_259 : decode prog_37_method_2_code 259 = .ok (.aload_n 0, 1) := by decide +kernel
theorem dad_260 : decode prog_37_method_2_code 260 = .ok (.getfield 48, 3) := by decide +kernel
theorem dad_263 : decode prog_37_method_2_code 263 = .ok (.iastore, 1) := by decide +kernel
theorem dad_264 : decode prog_37_method_2_code 264 = .ok (.iconst 2, 1) := by decide +kernel
theorem dad_265 : decode prog_37_method_2_code 265 = .ok (.aload_n 0, 1) := by decide +kernel
theorem dad_266 : decode prog_37_method_2_code 266 = .ok (.getfield 48, 3) := by decide +kernel
theorem dad_269 : decode prog_37_method_2_code 269 = .ok (.imul, 1) := by decide +kernel
theorem dad_270 : decode prog_37_method_2_code 270 = .ok (.aload_n 0, 1) := by decide +kernel
theorem dad_271 : decode prog_37_method_2_code 271 = .ok (.getfield 29, 3) := by decide +kernel
theorem dad_274 : decode prog_37_method_2_code 274 = .ok (.arraylength, 1) := by decide +kernel
theorem dad_275 : decode prog_37_method_2_code 275 = .ok (.if_icmp .le 14, 3) := by decide +kernel
theorem dad_289 : decode prog_37_method_2_code 289 = .ok (.return_, 1) := by decide +kernel
theorem ef_ad (mI : MethodId) (t : Addr) (sz : Int32) (o : Int32) : entryFrame mI #[(.ref t), (.int sz), (.int (0 : Int32)), (.int o), (.int (0 : Int32))] 8 = mkF mI 0 #[.val (.ref t), .val (.int sz), .val (.int (0 : Int32)), .val (.int o), .val (.int (0 : Int32)), .unset, .unset, .unset] [] := by first | (simp [entryFrame, mkF, argsToLocals, Value.category]; done) | rfl
theorem pn_ad : plainName own_TT = true := by first | decide +kernel | (simp [plainName, overriddenIn]; done)
set_option maxRecDepth 65536 in
set_option maxHeartbeats 40000000 in
theorem rmad (lL : Launch) (Z : State) (a0 : Array Value) (hw : ∀ d ∈ tables_1, d.before a0 Z = true) (ws : List Jvm.Cond) (t : Addr) (sz : Int32) (o : Int32) (sq : Addr) (p : Int32) (sn : Int32) (bs : Addr) (bp : Addr) (bo : Addr) (bf : Addr) (bt : Addr) (k_bs : ClassId) (k_bp : ClassId) (k_bo : ClassId) (k_bf : ClassId) (k_bt : ClassId) (lS : List (Int32 × Value)) (lP : List (Int32 × Value)) (lO : List (Int32 × Value)) (lF : List (Int32 × Value)) (lT : List (Int32 × Value)) (h0 : Heap) (n0 : Nat) (Z0 : n0 ≤ h0.size) (E_t : Exa Z h0 t own_TT) (F_subjects_t : Fld Z h0 t own_TT "subjects" "[I" (.ref bs)) (F_predicates_t : Fld Z h0 t own_TT "predicates" "[I" (.ref bp)) (F_objects_t : Fld Z h0 t own_TT "objects" "[I" (.ref bo)) (F_firstGraphs_t : Fld Z h0 t own_TT "firstGraphs" "[I" (.ref bf)) (F_table_t : Fld Z h0 t own_TT "table" "[I" (.ref bt)) (F_otherGraphs_t : Fld Z h0 t own_TT "otherGraphs" "Ljava/util/Set;" (.ref sq)) (F_size_t : Fld Z h0 t own_TT "size" "I" (.int sz)) (A_bs : Arh Z h0 bs k_bs .int (1024 : Int32) lS [] (.int (0 : Int32))) (A_bp : Arh Z h0 bp k_bp .int (1024 : Int32) lP [] (.int (0 : Int32))) (A_bo : Arh Z h0 bo k_bo .int (1024 : Int32) lO [] (.int (0 : Int32))) (A_bf : Arh Z h0 bf k_bf .int (1024 : Int32) lF [] (.int (0 : Int32))) (A_bt : Arh Z h0 bt k_bt .int (2048 : Int32) lT [] (.int (0 : Int32))) (le_n0_t : n0 ≤ t) (le_n0_bs : n0 ≤ bs) (le_n0_bp : n0 ≤ bp) (le_n0_bo : n0 ≤ bo) (le_n0_bf : n0 ≤ bf) (le_n0_bt : n0 ≤ bt) (ne_bs_bp : bs ≠ bp) (ne_bs_bo : bs ≠ bo) (ne_bs_bf : bs ≠ bf) (ne_bs_bt : bs ≠ bt) (ne_bp_bo : bp ≠ bo) (ne_bp_bf : bp ≠ bf) (ne_bp_bt : bp ≠ bt) (ne_bo_bf : bo ≠ bf) (ne_bo_bt : bo ≠ bt) (ne_bf_bt : bf ≠ bt) (hz0 : ¬ sz < 0) (hz1 : sz < (1024 : Int32)) (hz2 : ¬ sz = (1024 : Int32)) (hz3 : sz + (1 : Int32) = sn) (hz4 : ¬ (2048 : Int32) < ((2 : Int32) * sn)) (hp : (own_hash sz (0 : Int32) o) &&& (2047 : Int32) = p) (hp0 : ¬ p < 0) (hp1 : p < (2048 : Int32)) (hm : getH lT [] (.int (0 : Int32)) p.toNatClampNeg = (.int (0 : Int32))) :
    MetFree lL (⟨own_TT, "add", "(IIII)V"⟩ : MethodName) (head1 (Jvm.Cond.code (⟨own_TT, "add", "(IIII)V"⟩ : MethodName) prog_37_method_2_code 8 none :: ws) ({ frames := 1, cells := 0, slots := 0, locals := 15 } : Room)) (fun a_ U_ => a_ = #[(.ref t), (.int sz), (.int (0 : Int32)), (.int o), (.int (0 : Int32))] ∧ Z.Warmed39 U_.vm ∧ U_.heap = h0) (fun _ _ _ _ _ => True) (fun _ U_ o_ W_ => ∃ v_ L_, o_ = .returned v_ ∧ own_Qad Z t sz o sq p sn bs bp bo bf bt k_bs k_bp k_bo k_bf k_bt lS lP lO lF lT h0 n0 v_ W_.heap L_ ∧ FrameEnd U_ o_ W_ L_ ({ frames := 1, cells := 0, slots := 0, locals := 15 } : Room).cells ({ frames := 1, cells := 0, slots := 0, locals := 15 } : Room).slots) := by
  refine MetFree.of_bodySF (plainFor_of_name pn_ad) hisR ?_
  intro pP eE sS mI args below meth cC s₁ Bd hml0 hP hK
  obtain ⟨rfl, hZ, hh⟩ := hP
  have hx := Bd.exec
  have hby := Bd.bytes
  have hml : cC.maxLocals = 8 := hml0
  have hown : sS.vm.findClass own_TT = some mI.cls := by have z := findClass_of_methodNamed Bd.named; exact z
  have hnm := (name_of_methodNamed Bd.named Bd.method).1
  have X0 : Stand pP lL eE ({ frames := 1, cells := 0, slots := 0, locals := 15 } : Room) sS mI #[(.ref t), (.int sz), (.int (0 : Int32)), (.int o), (.int (0 : Int32))] below meth cC s₁ [] 0 0 := Stand.of_body Bd
  have e0 : s₁.heap = h0 := by rw [← hh, Bd.state]; rfl
  have N0 := Fr.nil n0
  obtain ⟨G, hG, hst, hend⟩ := own_abs pP eE below sS (own_Qad Z t sz o sq p sn bs bp bo bf bt k_bs k_bp k_bo k_bf k_bt lS lP lO lF lT h0 n0) ({ frames := 1, cells := 0, slots := 0, locals := 15 } : Room).cells ({ frames := 1, cells := 0, slots := 0, locals := 15 } : Room).slots
  refine hG (S := s₁.setTop (entryFrame mI #[(.ref t), (.int sz), (.int (0 : Int32)), (.int o), (.int (0 : Int32))] 8)) (hst (fun t_ kt_ => castTop (ef_ad mI t sz o) kt_) ?_)
  have Z1 := Nat.le_refl h0.size
  have K0 := Keep.refl h0 [t, bs, bp, bo, bf, bt]
  show G (s₁.setTop (mkF mI 0 #[.val (.ref t), .val (.int sz), .val (.int (0 : Int32)), .val (.int o), .val (.int (0 : Int32)), .unset, .unset, .unset] []))
  refine o_aloadN hst X0.here hx (hb hby dad_0) (pc' := 1) rfl rfl rfl ?_
  obtain ⟨T_1, X_1, e_1, st_1⟩ := getF X0 hx hZ hown (host := "") (Or.inl (own_w116 hw)) Via.refl e0 F_table_t (g := (mkF mI 1 #[.val (.ref t), .val (.int sz), .val (.int (0 : Int32)), .val (.int o), .val (.int (0 : Int32)), .unset, .unset, .unset] [(.ref t)])) rfl rfl (hb hby dad_1)
  refine hst st_1 ?_
  show G (T_1.setTop (mkF mI 4 #[.val (.ref t), .val (.int sz), .val (.int (0 : Int32)), .val (.int o), .val (.int (0 : Int32)), .unset, .unset, .unset] [(.ref bt)]))
  obtain ⟨cl_2, Ar_2, -, S_2, M_2, -, -⟩ := id A_bt
  refine hst (X_1.arraylength hx (by rw [e_1]; exact Ar_2.1) (State.isArrayOf_alike hZ.alike Ar_2.2.1) (g := (mkF mI 4 #[.val (.ref t), .val (.int sz), .val (.int (0 : Int32)), .val (.int o), .val (.int (0 : Int32)), .unset, .unset, .unset] [(.ref bt)])) rfl rfl (hb hby dad_4)) ?_
  rw [len_of S_2 M_2]
  show G (T_1.setTop (mkF mI 5 #[.val (.ref t), .val (.int sz), .val (.int (0 : Int32)), .val (.int o), .val (.int (0 : Int32)), .unset, .unset, .unset] [(.int (2048 : Int32))]))
  refine o_iconst hst X_1.here hx (hb hby dad_5) (pc' := 6) rfl (z := (1 : Int32)) rfl ?_
  refine o_isub hst X_1.here hx (hb hby dad_6) (pc' := 7) rfl ?_
  rw [show ((2048 : Int32) - (1 : Int32)) = (2047 : Int32) from by decide]
  show G (T_1.setTop (mkF mI 7 #[.val (.ref t), .val (.int sz), .val (.int (0 : Int32)), .val (.int o), .val (.int (0 : Int32)), .unset, .unset, .unset] [(.int (2047 : Int32))]))
  refine o_istore hst X_1.here hx (hb hby dad_7) (pc' := 9) rfl (Lt := #[.val (.ref t), .val (.int sz), .val (.int (0 : Int32)), .val (.int o), .val (.int (0 : Int32)), .val (.int (2047 : Int32)), .unset, .unset]) rfl ?_
  refine o_iloadN hst X_1.here hx (hb hby dad_9) (pc' := 10) rfl rfl ?_
  refine o_iloadN hst X_1.here hx (hb hby dad_10) (pc' := 11) rfl rfl ?_
  refine o_iloadN hst X_1.here hx (hb hby dad_11) (pc' := 12) rfl rfl ?_
  obtain ⟨_, _, ⟨T_3, L_3, k_3, n_3⟩, -, X_3, ⟨Lc_3, hQ_3, l_3, y_3, z_3⟩, st_3⟩ := Jvm.LawKit.callS X_1 hx (y := (⟨own_TT, "hash", "(III)I"⟩ : MethodName)) hown (mvT hZ (own_w123 hw)) (mvT hZ (own_w124 hw)) (mvT hZ (own_w31 hw)) (mvT hZ (own_w125 hw)) (by decide) (backOf (W := 0) (rmha lL Z a0 hw [] sz (0 : Int32) o  h0 n0 Z0) hZ (own_w125 hw) (own_w31 hw) (by decide) (by decide)) (g := (mkF mI 12 #[.val (.ref t), .val (.int sz), .val (.int (0 : Int32)), .val (.int o), .val (.int (0 : Int32)), .val (.int (2047 : Int32)), .unset, .unset] [(.int o), (.int (0 : Int32)), (.int sz)])) rfl (by rw [hml]; rfl) (argsL := [(.int sz), (.int (0 : Int32)), (.int o)]) (rest := []) (lenOf pd_19 rfl) rfl (by show 2 * 0 + _ ≤ _; exact Nat.le_of_eq rfl) (hb hby dad_12) (fun _ _ => ⟨rfl, e_1, (by decide : 0 + 0 ≤ _), (by decide : 0 + 0 ≤ _)⟩)
  dsimp only [Pt.U, Pt.locs, Pt.cells, Pt.slots] at X_3 l_3 y_3 z_3 st_3 hQ_3
  subst l_3 y_3 z_3
  obtain ⟨rfl, N_3q, eh_3⟩ := hQ_3
  have N_3 := Fr.app N0 N_3q
  refine hst (fun _ kt => st_3 _ kt) ?_
  show G (T_3.setTop (mkF mI 15 #[.val (.ref t), .val (.int sz), .val (.int (0 : Int32)), .val (.int o), .val (.int (0 : Int32)), .val (.int (2047 : Int32)), .unset, .unset] [(.int (own_hash sz (0 : Int32) o))]))
  refine o_iload hst X_3.here hx (hb hby dad_15) (pc' := 17) rfl rfl ?_
  refine o_iand hst X_3.here hx (hb hby dad_17) (pc' := 18) rfl ?_
  rw [show ((own_hash sz (0 : Int32) o) &&& (2047 : Int32)) = p from hp]
  show G (T_3.setTop (mkF mI 18 #[.val (.ref t), .val (.int sz), .val (.int (0 : Int32)), .val (.int o), .val (.int (0 : Int32)), .val (.int (2047 : Int32)), .unset, .unset] [(.int p)]))
  refine o_istore hst X_3.here hx (hb hby dad_18) (pc' := 20) rfl (Lt := #[.val (.ref t), .val (.int sz), .val (.int (0 : Int32)), .val (.int o), .val (.int (0 : Int32)), .val (.int (2047 : Int32)), .val (.int p), .unset]) rfl ?_
  refine o_aloadN hst X_3.here hx (hb hby dad_20) (pc' := 21) rfl rfl rfl ?_
  obtain ⟨T_4, X_4, e_4, st_4⟩ := getF X_3 hx hZ hown (host := "") (Or.inl (own_w116 hw)) Via.refl eh_3 F_table_t (g := (mkF mI 21 #[.val (.ref t), .val (.int sz), .val (.int (0 : Int32)), .val (.int o), .val (.int (0 : Int32)), .val (.int (2047 : Int32)), .val (.int p), .unset] [(.ref t)])) rfl rfl (hb hby dad_21)
  refine hst st_4 ?_
  show G (T_4.setTop (mkF mI 24 #[.val (.ref t), .val (.int sz), .val (.int (0 : Int32)), .val (.int o), .val (.int (0 : Int32)), .val (.int (2047 : Int32)), .val (.int p), .unset] [(.ref bt)]))
  refine o_iload hst X_4.here hx (hb hby dad_24) (pc' := 26) rfl rfl ?_
  obtain ⟨cl_5, Ar_5, -, S_5, M_5, Hs_5, -⟩ := id A_bt
  have hin_5 : ¬ (p < 0 ∨ cl_5.slots.size ≤ (p).toNatClampNeg) := inb_of S_5 ⟨hp0, hp1⟩
  have hat_5 : cl_5.slots[(p).toNatClampNeg]? = some (.int (0 : Int32)) := atH Hs_5 hin_5 hm
  refine hst (X_4.iaload hx (j := p) (v := (.int (0 : Int32))) (by rw [e_4]; exact Ar_5.1) (State.isArrayOf_alike hZ.alike Ar_5.2.1) Ar_5.2.2 hin_5 hat_5 (g := (mkF mI 26 #[.val (.ref t), .val (.int sz), .val (.int (0 : Int32)), .val (.int o), .val (.int (0 : Int32)), .val (.int (2047 : Int32)), .val (.int p), .unset] [(.int p), (.ref bt)])) rfl rfl (hb hby dad_26)) ?_
  show G (T_4.setTop (mkF mI 27 #[.val (.ref t), .val (.int sz), .val (.int (0 : Int32)), .val (.int o), .val (.int (0 : Int32)), .val (.int (2047 : Int32)), .val (.int p), .unset] [(.int (0 : Int32))]))
  have hc27 : (0 : Int32) = (0 : Int32) := rfl
  refine hst (fun _ kt => XS.ifYes X_4.here hx rfl (pc0 := 27) (pc' := 122) rfl (hb hby dad_27) rfl ((if0 _ _).trans (teq hc27).1) (by decide) (by decide) kt) ?_
  show G (T_4.setTop (mkF mI 122 #[.val (.ref t), .val (.int sz), .val (.int (0 : Int32)), .val (.int o), .val (.int (0 : Int32)), .val (.int (2047 : Int32)), .val (.int p), .unset] []))
  refine o_aloadN hst X_4.here hx (hb hby dad_122) (pc' := 123) rfl rfl rfl ?_
  obtain ⟨T_6, X_6, e_6, st_6⟩ := getF X_4 hx hZ hown (host := "") (Or.inl (own_w129 hw)) Via.refl e_4 F_size_t (g := (mkF mI 123 #[.val (.ref t), .val (.int sz), .val (.int (0 : Int32)), .val (.int o), .val (.int (0 : Int32)), .val (.int (2047 : Int32)), .val (.int p), .unset] [(.ref t)])) rfl rfl (hb hby dad_123)
  refine hst st_6 ?_
  show G (T_6.setTop (mkF mI 126 #[.val (.ref t), .val (.int sz), .val (.int (0 : Int32)), .val (.int o), .val (.int (0 : Int32)), .val (.int (2047 : Int32)), .val (.int p), .unset] [(.int sz)]))
  refine o_aloadN hst X_6.here hx (hb hby dad_126) (pc' := 127) rfl rfl rfl ?_
  obtain ⟨T_7, X_7, e_7, st_7⟩ := getF X_6 hx hZ hown (host := "") (Or.inl (own_w37 hw)) Via.refl e_6 F_subjects_t (g := (mkF mI 127 #[.val (.ref t), .val (.int sz), .val (.int (0 : Int32)), .val (.int o), .val (.int (0 : Int32)), .val (.int (2047 : Int32)), .val (.int p), .unset] [(.ref t), (.int sz)])) rfl rfl (hb hby dad_127)
  refine hst st_7 ?_
  show G (T_7.setTop (mkF mI 130 #[.val (.ref t), .val (.int sz), .val (.int (0 : Int32)), .val (.int o), .val (.int (0 : Int32)), .val (.int (2047 : Int32)), .val (.int p), .unset] [(.ref bs), (.int sz)]))
  obtain ⟨cl_8, Ar_8, -, S_8, M_8, -, -⟩ := id A_bs
  refine hst (X_7.arraylength hx (by rw [e_7]; exact Ar_8.1) (State.isArrayOf_alike hZ.alike Ar_8.2.1) (g := (mkF mI 130 #[.val (.ref t), .val (.int sz), .val (.int (0 : Int32)), .val (.int o), .val (.int (0 : Int32)), .val (.int (2047 : Int32)), .val (.int p), .unset] [(.ref bs), (.int sz)])) rfl rfl (hb hby dad_130)) ?_
  rw [len_of S_8 M_8]
  show G (T_7.setTop (mkF mI 131 #[.val (.ref t), .val (.int sz), .val (.int (0 : Int32)), .val (.int o), .val (.int (0 : Int32)), .val (.int (2047 : Int32)), .val (.int p), .unset] [(.int (1024 : Int32)), (.int sz)]))
  have hc131 : ¬ (sz = (1024 : Int32)) := hz2
  refine hst (fun _ kt => XS.icmpYes X_7.here hx rfl (pc0 := 131) (pc' := 202) rfl (hb hby dad_131) rfl (feq hc131).2 (by decide) (by decide) kt) ?_
  show G (T_7.setTop (mkF mI 202 #[.val (.ref t), .val (.int sz), .val (.int (0 : Int32)), .val (.int o), .val (.int (0 : Int32)), .val (.int (2047 : Int32)), .val (.int p), .unset] []))
  refine o_aloadN hst X_7.here hx (hb hby dad_202) (pc' := 203) rfl rfl rfl ?_
  obtain ⟨T_9, X_9, e_9, st_9⟩ := getF X_7 hx hZ hown (host := "") (Or.inl (own_w37 hw)) Via.refl e_7 F_subjects_t (g := (mkF mI 203 #[.val (.ref t), .val (.int sz), .val (.int (0 : Int32)), .val (.int o), .val (.int (0 : Int32)), .val (.int (2047 : Int32)), .val (.int p), .unset] [(.ref t)])) rfl rfl (hb hby dad_203)
  refine hst st_9 ?_
  show G (T_9.setTop (mkF mI 206 #[.val (.ref t), .val (.int sz), .val (.int (0 : Int32)), .val (.int o), .val (.int (0 : Int32)), .val (.int (2047 : Int32)), .val (.int p), .unset] [(.ref bs)]))
  refine o_aloadN hst X_9.here hx (hb hby dad_206) (pc' := 207) rfl rfl rfl ?_
  obtain ⟨T_10, X_10, e_10, st_10⟩ := getF X_9 hx hZ hown (host := "") (Or.inl (own_w129 hw)) Via.refl e_9 F_size_t (g := (mkF mI 207 #[.val (.ref t), .val (.int sz), .val (.int (0 : Int32)), .val (.int o), .val (.int (0 : Int32)), .val (.int (2047 : Int32)), .val (.int p), .unset] [(.ref t), (.ref bs)])) rfl rfl (hb hby dad_207)
  refine hst st_10 ?_
  show G (T_10.setTop (mkF mI 210 #[.val (.ref t), .val (.int sz), .val (.int (0 : Int32)), .val (.int o), .val (.int (0 : Int32)), .val (.int (2047 : Int32)), .val (.int p), .unset] [(.int sz), (.ref bs)]))
  refine o_iloadN hst X_10.here hx (hb hby dad_210) (pc' := 211) rfl rfl ?_
  have ne_t_bs : t ≠ bs := own_ne_arh E_t (own_w30 hw) A_bs
  obtain ⟨cl_11, Ar_11, q_11, S_11, M_11, Hs_11, Gs_11⟩ := A_bs
  have hin_11 : ¬ (sz < 0 ∨ cl_11.slots.size ≤ (sz).toNatClampNeg) := inb_of S_11 ⟨hz0, hz1⟩
  obtain ⟨T_11, h_11, X_11, e_11, W_11, st_11⟩ := stI X_10 hx hZ e_10 Ar_11 (j := sz) hin_11 (g := (mkF mI 211 #[.val (.ref t), .val (.int sz), .val (.int (0 : Int32)), .val (.int o), .val (.int (0 : Int32)), .val (.int (2047 : Int32)), .val (.int p), .unset] [(.int sz), (.int sz), (.ref bs)])) rfl rfl (hb hby dad_211)
  have A_bs := Arh.push Ar_11 q_11 S_11 M_11 Hs_11 Gs_11 rfl W_11 hin_11
  have Z0 := Nat.le_trans Z0 (Keep.of_wr W_11).1
  have Z1 := Nat.le_trans Z1 (Keep.of_wr W_11).1
  have K0 := K0.wr W_11 (Or.inl (List.mem_of_getElem? (i := 1) rfl))
  have E_t := E_t.wr W_11
  have F_subjects_t := F_subjects_t.other W_11 (Or.inl ne_t_bs)
  have F_predicates_t := F_predicates_t.other W_11 (Or.inl ne_t_bs)
  have F_objects_t := F_objects_t.other W_11 (Or.inl ne_t_bs)
  have F_firstGraphs_t := F_firstGraphs_t.other W_11 (Or.inl ne_t_bs)
  have F_table_t := F_table_t.other W_11 (Or.inl ne_t_bs)
  have F_otherGraphs_t := F_otherGraphs_t.other W_11 (Or.inl ne_t_bs)
  have F_size_t := F_size_t.other W_11 (Or.inl ne_t_bs)
  have A_bp := A_bp.other W_11 (Ne.symm ne_bs_bp)
  have A_bo := A_bo.other W_11 (Ne.symm ne_bs_bo)
  have A_bf := A_bf.other W_11 (Ne.symm ne_bs_bf)
  have A_bt := A_bt.other W_11 (Ne.symm ne_bs_bt)
  have N_11 := Fr.snoc X_11 N_3 le_n0_bs
  refine hst st_11 ?_
  show G (T_11.setTop (mkF mI 212 #[.val (.ref t), .val (.int sz), .val (.int (0 : Int32)), .val (.int o), .val (.int (0 : Int32)), .val (.int (2047 : Int32)), .val (.int p), .unset] []))
  refine o_aloadN hst X_11.here hx (hb hby dad_212) (pc' := 213) rfl rfl rfl ?_
  obtain ⟨T_12, X_12, e_12, st_12⟩ := getF X_11 hx hZ hown (host := "") (Or.inl (own_w39 hw)) Via.refl e_11 F_predicates_t (g := (mkF mI 213 #[.val (.ref t), .val (.int sz), .val (.int (0 : Int32)), .val (.int o), .val (.int (0 : Int32)), .val (.int (2047 : Int32)), .val (.int p), .unset] [(.ref t)])) rfl rfl (hb hby dad_213)
  refine hst st_12 ?_
  show G (T_12.setTop (mkF mI 216 #[.val (.ref t), .val (.int sz), .val (.int (0 : Int32)), .val (.int o), .val (.int (0 : Int32)), .val (.int (2047 : Int32)), .val (.int p), .unset] [(.ref bp)]))
  refine o_aloadN hst X_12.here hx (hb hby dad_216) (pc' := 217) rfl rfl rfl ?_
  obtain ⟨T_13, X_13, e_13, st_13⟩ := getF X_12 hx hZ hown (host := "") (Or.inl (own_w129 hw)) Via.refl e_12 F_size_t (g := (mkF mI 217 #[.val (.ref t), .val (.int sz), .val (.int (0 : Int32)), .val (.int o), .val (.int (0 : Int32)), .val (.int (2047 : Int32)), .val (.int p), .unset] [(.ref t), (.ref bp)])) rfl rfl (hb hby dad_217)
  refine hst st_13 ?_
  show G (T_13.setTop (mkF mI 220 #[.val (.ref t), .val (.int sz), .val (.int (0 : Int32)), .val (.int o), .val (.int (0 : Int32)), .val (.int (2047 : Int32)), .val (.int p), .unset] [(.int sz), (.ref bp)]))
  refine o_iloadN hst X_13.here hx (hb hby dad_220) (pc' := 221) rfl rfl ?_
  have ne_t_bp : t ≠ bp := own_ne_arh E_t (own_w30 hw) A_bp
  obtain ⟨cl_14, Ar_14, q_14, S_14, M_14, Hs_14, Gs_14⟩ := A_bp
  have hin_14 : ¬ (sz < 0 ∨ cl_14.slots.size ≤ (sz).toNatClampNeg) := inb_of S_14 ⟨hz0, hz1⟩
  obtain ⟨T_14, h_14, X_14, e_14, W_14, st_14⟩ := stI X_13 hx hZ e_13 Ar_14 (j := sz) hin_14 (g := (mkF mI 221 #[.val (.ref t), .val (.int sz), .val (.int (0 : Int32)), .val (.int o), .val (.int (0 : Int32)), .val (.int (2047 : Int32)), .val (.int p), .unset] [(.int (0 : Int32)), (.int sz), (.ref bp)])) rfl rfl (hb hby dad_221)
  have A_bp := Arh.push Ar_14 q_14 S_14 M_14 Hs_14 Gs_14 rfl W_14 hin_14
  have Z0 := Nat.le_trans Z0 (Keep.of_wr W_14).1
  have Z1 := Nat.le_trans Z1 (Keep.of_wr W_14).1
  have K0 := K0.wr W_14 (Or.inl (List.mem_of_getElem? (i := 2) rfl))
  have E_t := E_t.wr W_14
  have F_subjects_t := F_subjects_t.other W_14 (Or.inl ne_t_bp)
  have F_predicates_t := F_predicates_t.other W_14 (Or.inl ne_t_bp)
  have F_objects_t := F_objects_t.other W_14 (Or.inl ne_t_bp)
  have F_firstGraphs_t := F_firstGraphs_t.other W_14 (Or.inl ne_t_bp)
  have F_table_t := F_table_t.other W_14 (Or.inl ne_t_bp)
  have F_otherGraphs_t := F_otherGraphs_t.other W_14 (Or.inl ne_t_bp)
  have F_size_t := F_size_t.other W_14 (Or.inl ne_t_bp)
  have A_bo := A_bo.other W_14 (Ne.symm ne_bp_bo)
  have A_bf := A_bf.other W_14 (Ne.symm ne_bp_bf)
  have A_bt := A_bt.other W_14 (Ne.symm ne_bp_bt)
  have A_bs := A_bs.other W_14 ne_bs_bp
  have N_14 := Fr.snoc X_14 N_11 le_n0_bp
  refine hst st_14 ?_
  show G (T_14.setTop (mkF mI 222 #[.val (.ref t), .val (.int sz), .val (.int (0 : Int32)), .val (.int o), .val (.int (0 : Int32)), .val (.int (2047 : Int32)), .val (.int p), .unset] []))
  refine o_aloadN hst X_14.here hx (hb hby dad_222) (pc' := 223) rfl rfl rfl ?_
  obtain ⟨T_15, X_15, e_15, st_15⟩ := getF X_14 hx hZ hown (host := "") (Or.inl (own_w41 hw)) Via.refl e_14 F_objects_t (g := (mkF mI 223 #[.val (.ref t), .val (.int sz), .val (.int (0 : Int32)), .val (.int o), .val (.int (0 : Int32)), .val (.int (2047 : Int32)), .val (.int p), .unset] [(.ref t)])) rfl rfl (hb hby dad_223)
  refine hst st_15 ?_
  show G (T_15.setTop (mkF mI 226 #[.val (.ref t), .val (.int sz), .val (.int (0 : Int32)), .val (.int o), .val (.int (0 : Int32)), .val (.int (2047 : Int32)), .val (.int p), .unset] [(.ref bo)]))
  refine o_aloadN hst X_15.here hx (hb hby dad_226) (pc' := 227) rfl rfl rfl ?_
  obtain ⟨T_16, X_16, e_16, st_16⟩ := getF X_15 hx hZ hown (host := "") (Or.inl (own_w129 hw)) Via.refl e_15 F_size_t (g := (mkF mI 227 #[.val (.ref t), .val (.int sz), .val (.int (0 : Int32)), .val (.int o), .val (.int (0 : Int32)), .val (.int (2047 : Int32)), .val (.int p), .unset] [(.ref t), (.ref bo)])) rfl rfl (hb hby dad_227)
  refine hst st_16 ?_
  show G (T_16.setTop (mkF mI 230 #[.val (.ref t), .val (.int sz), .val (.int (0 : Int32)), .val (.int o), .val (.int (0 : Int32)), .val (.int (2047 : Int32)), .val (.int p), .unset] [(.int sz), (.ref bo)]))
  refine o_iloadN hst X_16.here hx (hb hby dad_230) (pc' := 231) rfl rfl ?_
  have ne_t_bo : t ≠ bo := own_ne_arh E_t (own_w30 hw) A_bo
  obtain ⟨cl_17, Ar_17, q_17, S_17, M_17, Hs_17, Gs_17⟩ := A_bo
  have hin_17 : ¬ (sz < 0 ∨ cl_17.slots.size ≤ (sz).toNatClampNeg) := inb_of S_17 ⟨hz0, hz1⟩
  obtain ⟨T_17, h_17, X_17, e_17, W_17, st_17⟩ := stI X_16 hx hZ e_16 Ar_17 (j := sz) hin_17 (g := (mkF mI 231 #[.val (.ref t), .val (.int sz), .val (.int (0 : Int32)), .val (.int o), .val (.int (0 : Int32)), .val (.int (2047 : Int32)), .val (.int p), .unset] [(.int o), (.int sz), (.ref bo)])) rfl rfl (hb hby dad_231)
  have A_bo := Arh.push Ar_17 q_17 S_17 M_17 Hs_17 Gs_17 rfl W_17 hin_17
  have Z0 := Nat.le_trans Z0 (Keep.of_wr W_17).1
  have Z1 := Nat.le_trans Z1 (Keep.of_wr W_17).1
  have K0 := K0.wr W_17 (Or.inl (List.mem_of_getElem? (i := 3) rfl))
  have E_t := E_t.wr W_17
  have F_subjects_t := F_subjects_t.other W_17 (Or.inl ne_t_bo)
  have F_predicates_t := F_predicates_t.other W_17 (Or.inl ne_t_bo)
  have F_objects_t := F_objects_t.other W_17 (Or.inl ne_t_bo)
  have F_firstGraphs_t := F_firstGraphs_t.other W_17 (Or.inl ne_t_bo)
  have F_table_t := F_table_t.other W_17 (Or.inl ne_t_bo)
  have F_otherGraphs_t := F_otherGraphs_t.other W_17 (Or.inl ne_t_bo)
  have F_size_t := F_size_t.other W_17 (Or.inl ne_t_bo)
  have A_bf := A_bf.other W_17 (Ne.symm ne_bo_bf)
  have A_bt := A_bt.other W_17 (Ne.symm ne_bo_bt)
  have A_bs := A_bs.other W_17 ne_bs_bo
  have A_bp := A_bp.other W_17 ne_bp_bo
  have N_17 := Fr.snoc X_17 N_14 le_n0_bo
  refine hst st_17 ?_
  show G (T_17.setTop (mkF mI 232 #[.val (.ref t), .val (.int sz), .val (.int (0 : Int32)), .val (.int o), .val (.int (0 : Int32)), .val (.int (2047 : Int32)), .val (.int p), .unset] []))
  refine o_aloadN hst X_17.here hx (hb hby dad_232) (pc' := 233) rfl rfl rfl ?_
  obtain ⟨T_18, X_18, e_18, st_18⟩ := getF X_17 hx hZ hown (host := "") (Or.inl (own_w43 hw)) Via.refl e_17 F_firstGraphs_t (g := (mkF mI 233 #[.val (.ref t), .val (.int sz), .val (.int (0 : Int32)), .val (.int o), .val (.int (0 : Int32)), .val (.int (2047 : Int32)), .val (.int p), .unset] [(.ref t)])) rfl rfl (hb hby dad_233)
  refine hst st_18 ?_
  show G (T_18.setTop (mkF mI 236 #[.val (.ref t), .val (.int sz), .val (.int (0 : Int32)), .val (.int o), .val (.int (0 : Int32)), .val (.int (2047 : Int32)), .val (.int p), .unset] [(.ref bf)]))
  refine o_aloadN hst X_18.here hx (hb hby dad_236) (pc' := 237) rfl rfl rfl ?_
  obtain ⟨T_19, X_19, e_19, st_19⟩ := getF X_18 hx hZ hown (host := "") (Or.inl (own_w129 hw)) Via.refl e_18 F_size_t (g := (mkF mI 237 #[.val (.ref t), .val (.int sz), .val (.int (0 : Int32)), .val (.int o), .val (.int (0 : Int32)), .val (.int (2047 : Int32)), .val (.int p), .unset] [(.ref t), (.ref bf)])) rfl rfl (hb hby dad_237)
  refine hst st_19 ?_
  show G (T_19.setTop (mkF mI 240 #[.val (.ref t), .val (.int sz), .val (.int (0 : Int32)), .val (.int o), .val (.int (0 : Int32)), .val (.int (2047 : Int32)), .val (.int p), .unset] [(.int sz), (.ref bf)]))
  refine o_iload hst X_19.here hx (hb hby dad_240) (pc' := 242) rfl rfl ?_
  have ne_t_bf : t ≠ bf := own_ne_arh E_t (own_w30 hw) A_bf
  obtain ⟨cl_20, Ar_20, q_20, S_20, M_20, Hs_20, Gs_20⟩ := A_bf
  have hin_20 : ¬ (sz < 0 ∨ cl_20.slots.size ≤ (sz).toNatClampNeg) := inb_of S_20 ⟨hz0, hz1⟩
  obtain ⟨T_20, h_20, X_20, e_20, W_20, st_20⟩ := stI X_19 hx hZ e_19 Ar_20 (j := sz) hin_20 (g := (mkF mI 242 #[.val (.ref t), .val (.int sz), .val (.int (0 : Int32)), .val (.int o), .val (.int (0 : Int32)), .val (.int (2047 : Int32)), .val (.int p), .unset] [(.int (0 : Int32)), (.int sz), (.ref bf)])) rfl rfl (hb hby dad_242)
  have A_bf := Arh.push Ar_20 q_20 S_20 M_20 Hs_20 Gs_20 rfl W_20 hin_20
  have Z0 := Nat.le_trans Z0 (Keep.of_wr W_20).1
  have Z1 := Nat.le_trans Z1 (Keep.of_wr W_20).1
  have K0 := K0.wr W_20 (Or.inl (List.mem_of_getElem? (i := 4) rfl))
  have E_t := E_t.wr W_20
  have F_subjects_t := F_subjects_t.other W_20 (Or.inl ne_t_bf)
  have F_predicates_t := F_predicates_t.other W_20 (Or.inl ne_t_bf)
  have F_objects_t := F_objects_t.other W_20 (Or.inl ne_t_bf)
  have F_firstGraphs_t := F_firstGraphs_t.other W_20 (Or.inl ne_t_bf)
  have F_table_t := F_table_t.other W_20 (Or.inl ne_t_bf)
  have F_otherGraphs_t := F_otherGraphs_t.other W_20 (Or.inl ne_t_bf)
  have F_size_t := F_size_t.other W_20 (Or.inl ne_t_bf)
  have A_bt := A_bt.other W_20 (Ne.symm ne_bf_bt)
  have A_bs := A_bs.other W_20 ne_bs_bf
  have A_bp := A_bp.other W_20 ne_bp_bf
  have A_bo := A_bo.other W_20 ne_bo_bf
  have N_20 := Fr.snoc X_20 N_17 le_n0_bf
  refine hst st_20 ?_
  show G (T_20.setTop (mkF mI 243 #[.val (.ref t), .val (.int sz), .val (.int (0 : Int32)), .val (.int o), .val (.int (0 : Int32)), .val (.int (2047 : Int32)), .val (.int p), .unset] []))
  refine o_aloadN hst X_20.here hx (hb hby dad_243) (pc' := 244) rfl rfl rfl ?_
  refine o_dup hst X_20.here hx (hb hby dad_244) (pc' := 245) rfl rfl ?_
  obtain ⟨T_21, X_21, e_21, st_21⟩ := getF X_20 hx hZ hown (host := "") (Or.inl (own_w129 hw)) Via.refl e_20 F_size_t (g := (mkF mI 245 #[.val (.ref t), .val (.int sz), .val (.int (0 : Int32)), .val (.int o), .val (.int (0 : Int32)), .val (.int (2047 : Int32)), .val (.int p), .unset] [(.ref t), (.ref t)])) rfl rfl (hb hby dad_245)
  refine hst st_21 ?_
  show G (T_21.setTop (mkF mI 248 #[.val (.ref t), .val (.int sz), .val (.int (0 : Int32)), .val (.int o), .val (.int (0 : Int32)), .val (.int (2047 : Int32)), .val (.int p), .unset] [(.int sz), (.ref t)]))
  refine o_iconst hst X_21.here hx (hb hby dad_248) (pc' := 249) rfl (z := (1 : Int32)) rfl ?_
  refine o_iadd hst X_21.here hx (hb hby dad_249) (pc' := 250) rfl ?_
  rw [show (sz + (1 : Int32)) = sn from hz3]
  show G (T_21.setTop (mkF mI 250 #[.val (.ref t), .val (.int sz), .val (.int (0 : Int32)), .val (.int o), .val (.int (0 : Int32)), .val (.int (2047 : Int32)), .val (.int p), .unset] [(.int sn), (.ref t)]))
  obtain ⟨T_22, h_22, X_22, e_22, W_22, st_22⟩ := putF X_21 hx hZ hown (host := "") (Or.inl (own_w129 hw)) Via.refl e_21 F_size_t E_t (Or.inl (own_w130 hw)) (own_w30 hw) (ty := .int) (by decide) rfl rfl (g := (mkF mI 250 #[.val (.ref t), .val (.int sz), .val (.int (0 : Int32)), .val (.int o), .val (.int (0 : Int32)), .val (.int (2047 : Int32)), .val (.int p), .unset] [(.int sn), (.ref t)])) rfl rfl (hb hby dad_250)
  have ne_bt_t : bt ≠ t := Ne.symm (own_ne_arh E_t (own_w30 hw) A_bt)
  have Z0 := Nat.le_trans Z0 (Keep.of_wr W_22).1
  have Z1 := Nat.le_trans Z1 (Keep.of_wr W_22).1
  have K0 := K0.wr W_22 (Or.inl (List.mem_of_getElem? (i := 0) rfl))
  have E_t := E_t.wr W_22
  have F_subjects_t := F_subjects_t.other W_22 (Or.inr (slot_ne (Or.inl (own_w38 hw)) (Or.inl (own_w130 hw)) (by decide) (t := (.array .int)) (t' := .int) (by decide) (by decide)))
  have F_predicates_t := F_predicates_t.other W_22 (Or.inr (slot_ne (Or.inl (own_w40 hw)) (Or.inl (own_w130 hw)) (by decide) (t := (.array .int)) (t' := .int) (by decide) (by decide)))
  have F_objects_t := F_objects_t.other W_22 (Or.inr (slot_ne (Or.inl (own_w42 hw)) (Or.inl (own_w130 hw)) (by decide) (t := (.array .int)) (t' := .int) (by decide) (by decide)))
  have F_firstGraphs_t := F_firstGraphs_t.other W_22 (Or.inr (slot_ne (Or.inl (own_w44 hw)) (Or.inl (own_w130 hw)) (by decide) (t := (.array .int)) (t' := .int) (by decide) (by decide)))
  have F_table_t := F_table_t.other W_22 (Or.inr (slot_ne (Or.inl (own_w117 hw)) (Or.inl (own_w130 hw)) (by decide) (t := (.array .int)) (t' := .int) (by decide) (by decide)))
  have F_otherGraphs_t := F_otherGraphs_t.other W_22 (Or.inr (slot_ne (Or.inr (own_w115 hw)) (Or.inl (own_w130 hw)) (by decide) (t := (.object "java/util/Set")) (t' := .int) (by decide) (by decide)))
  have F_size_t := F_size_t.same W_22
  have A_bt := A_bt.other W_22 ne_bt_t
  have A_bs := A_bs.other W_22 (Ne.symm ne_t_bs)
  have A_bp := A_bp.other W_22 (Ne.symm ne_t_bp)
  have A_bo := A_bo.other W_22 (Ne.symm ne_t_bo)
  have A_bf := A_bf.other W_22 (Ne.symm ne_t_bf)
  have N_22 := Fr.snoc X_22 N_20 le_n0_t
  refine hst st_22 ?_
  show G (T_22.setTop (mkF mI 253 #[.val (.ref t), .val (.int sz), .val (.int (0 : Int32)), .val (.int o), .val (.int (0 : Int32)), .val (.int (2047 : Int32)), .val (.int p), .unset] []))
  refine o_aloadN hst X_22.here hx (hb hby dad_253) (pc' := 254) rfl rfl rfl ?_
  obtain ⟨T_23, X_23, e_23, st_23⟩ := getF X_22 hx hZ hown (host := "") (Or.inl (own_w116 hw)) Via.refl e_22 F_table_t (g := (mkF mI 254 #[.val (.ref t), .val (.int sz), .val (.int (0 : Int32)), .val (.int o), .val (.int (0 : Int32)), .val (.int (2047 : Int32)), .val (.int p), .unset] [(.ref t)])) rfl rfl (hb hby dad_254)
  refine hst st_23 ?_
  show G (T_23.setTop (mkF mI 257 #[.val (.ref t), .val (.int sz), .val (.int (0 : Int32)), .val (.int o), .val (.int (0 : Int32)), .val (.int (2047 : Int32)), .val (.int p), .unset] [(.ref bt)]))
  refine o_iload hst X_23.here hx (hb hby dad_257) (pc' := 259) rfl rfl ?_
  refine o_aloadN hst X_23.here hx (hb hby dad_259) (pc' := 260) rfl rfl rfl ?_
  obtain ⟨T_24, X_24, e_24, st_24⟩ := getF X_23 hx hZ hown (host := "") (Or.inl (own_w129 hw)) Via.refl e_23 F_size_t (g := (mkF mI 260 #[.val (.ref t), .val (.int sz), .val (.int (0 : Int32)), .val (.int o), .val (.int (0 : Int32)), .val (.int (2047 : Int32)), .val (.int p), .unset] [(.ref t), (.int p), (.ref bt)])) rfl rfl (hb hby dad_260)
  refine hst st_24 ?_
  show G (T_24.setTop (mkF mI 263 #[.val (.ref t), .val (.int sz), .val (.int (0 : Int32)), .val (.int o), .val (.int (0 : Int32)), .val (.int (2047 : Int32)), .val (.int p), .unset] [(.int sn), (.int p), (.ref bt)]))
  obtain ⟨cl_25, Ar_25, q_25, S_25, M_25, Hs_25, Gs_25⟩ := A_bt
  have hin_25 : ¬ (p < 0 ∨ cl_25.slots.size ≤ (p).toNatClampNeg) := inb_of S_25 ⟨hp0, hp1⟩
  obtain ⟨T_25, h_25, X_25, e_25, W_25, st_25⟩ := stI X_24 hx hZ e_24 Ar_25 (j := p) hin_25 (g := (mkF mI 263 #[.val (.ref t), .val (.int sz), .val (.int (0 : Int32)), .val (.int o), .val (.int (0 : Int32)), .val (.int (2047 : Int32)), .val (.int p), .unset] [(.int sn), (.int p), (.ref bt)])) rfl rfl (hb hby dad_263)
  have A_bt := Arh.push Ar_25 q_25 S_25 M_25 Hs_25 Gs_25 rfl W_25 hin_25
  have Z0 := Nat.le_trans Z0 (Keep.of_wr W_25).1
  have Z1 := Nat.le_trans Z1 (Keep.of_wr W_25).1
  have K0 := K0.wr W_25 (Or.inl (List.mem_of_getElem? (i := 5) rfl))
  have E_t := E_t.wr W_25
  have F_subjects_t := F_subjects_t.other W_25 (Or.inl (Ne.symm ne_bt_t))
  have F_predicates_t := F_predicates_t.other W_25 (Or.inl (Ne.symm ne_bt_t))
  have F_objects_t := F_objects_t.other W_25 (Or.inl (Ne.symm ne_bt_t))
  have F_firstGraphs_t := F_firstGraphs_t.other W_25 (Or.inl (Ne.symm ne_bt_t))
  have F_table_t := F_table_t.other W_25 (Or.inl (Ne.symm ne_bt_t))
  have F_otherGraphs_t := F_otherGraphs_t.other W_25 (Or.inl (Ne.symm ne_bt_t))
  have F_size_t := F_size_t.other W_25 (Or.inl (Ne.symm ne_bt_t))
  have A_bs := A_bs.other W_25 ne_bs_bt
  have A_bp := A_bp.other W_25 ne_bp_bt
  have A_bo := A_bo.other W_25 ne_bo_bt
  have A_bf := A_bf.other W_25 ne_bf_bt
  have N_25 := Fr.snoc X_25 N_22 le_n0_bt
  refine hst st_25 ?_
  show G (T_25.setTop (mkF mI 264 #[.val (.ref t), .val (.int sz), .val (.int (0 : Int32)), .val (.int o), .val (.int (0 : Int32)), .val (.int (2047 : Int32)), .val (.int p), .unset] []))
  refine o_iconst hst X_25.here hx (hb hby dad_264) (pc' := 265) rfl (z := (2 : Int32)) rfl ?_
  refine o_aloadN hst X_25.here hx (hb hby dad_265) (pc' := 266) rfl rfl rfl ?_
  obtain ⟨T_26, X_26, e_26, st_26⟩ := getF X_25 hx hZ hown (host := "") (Or.inl (own_w129 hw)) Via.refl e_25 F_size_t (g := (mkF mI 266 #[.val (.ref t), .val (.int sz), .val (.int (0 : Int32)), .val (.int o), .val (.int (0 : Int32)), .val (.int (2047 : Int32)), .val (.int p), .unset] [(.ref t), (.int (2 : Int32))])) rfl rfl (hb hby dad_266)
  refine hst st_26 ?_
  show G (T_26.setTop (mkF mI 269 #[.val (.ref t), .val (.int sz), .val (.int (0 : Int32)), .val (.int o), .val (.int (0 : Int32)), .val (.int (2047 : Int32)), .val (.int p), .unset] [(.int sn), (.int (2 : Int32))]))
  refine o_imul hst X_26.here hx (hb hby dad_269) (pc' := 270) rfl ?_
  refine o_aloadN hst X_26.here hx (hb hby dad_270) (pc' := 271) rfl rfl rfl ?_
  obtain ⟨T_27, X_27, e_27, st_27⟩ := getF X_26 hx hZ hown (host := "") (Or.inl (own_w116 hw)) Via.refl e_26 F_table_t (g := (mkF mI 271 #[.val (.ref t), .val (.int sz), .val (.int (0 : Int32)), .val (.int o), .val (.int (0 : Int32)), .val (.int (2047 : Int32)), .val (.int p), .unset] [(.ref t), (.int ((2 : Int32) * sn))])) rfl rfl (hb hby dad_271)
  refine hst st_27 ?_
  show G (T_27.setTop (mkF mI 274 #[.val (.ref t), .val (.int sz), .val (.int (0 : Int32)), .val (.int o), .val (.int (0 : Int32)), .val (.int (2047 : Int32)), .val (.int p), .unset] [(.ref bt), (.int ((2 : Int32) * sn))]))
  obtain ⟨cl_28, Ar_28, -, S_28, M_28, -, -⟩ := id A_bt
  refine hst (X_27.arraylength hx (by rw [e_27]; exact Ar_28.1) (State.isArrayOf_alike hZ.alike Ar_28.2.1) (g := (mkF mI 274 #[.val (.ref t), .val (.int sz), .val (.int (0 : Int32)), .val (.int o), .val (.int (0 : Int32)), .val (.int (2047 : Int32)), .val (.int p), .unset] [(.ref bt), (.int ((2 : Int32) * sn))])) rfl rfl (hb hby dad_274)) ?_
  rw [len_of S_28 M_28]
  show G (T_27.setTop (mkF mI 275 #[.val (.ref t), .val (.int sz), .val (.int (0 : Int32)), .val (.int o), .val (.int (0 : Int32)), .val (.int (2047 : Int32)), .val (.int p), .unset] [(.int (2048 : Int32)), (.int ((2 : Int32) * sn))]))
  have hc275 : ¬ ((2048 : Int32) < ((2 : Int32) * sn)) := hz4
  refine hst (fun _ kt => XS.icmpYes X_27.here hx rfl (pc0 := 275) (pc' := 289) rfl (hb hby dad_275) rfl (flt hc275).2.2.2 (by decide) (by decide) kt) ?_
  show G (T_27.setTop (mkF mI 289 #[.val (.ref t), .val (.int sz), .val (.int (0 : Int32)), .val (.int o), .val (.int (0 : Int32)), .val (.int (2047 : Int32)), .val (.int p), .unset] []))
  exact hend (own_goVoid X_27 hx Bd.returns (hb hby dad_289) Bd.notSynchronized (by rw [e_27]; exact ⟨rfl, N_25, K0, E_t, F_subjects_t, F_predicates_t, F_objects_t, F_firstGraphs_t, F_table_t, F_otherGraphs_t, F_size_t, A_bs, A_bp, A_bo, A_bf, A_bt⟩) (by decide) (by decide))
theorem dlx_0 : decode prog_29_method_17_code 0 = .ok (.aload_n 0, 1) := by decide +kernel
theorem dlx_1 : decode prog_29_method_17_code 1 = .ok (.getfield 61, 3) := by decide +kernel
theorem dlx_4 : decode prog_29_method_17_code 4 = .ok (.aload_n 0, 1) := by decide +kernel
theorem dlx_5 : decode prog_29_method_17_code 5 = .ok (.getfield 58, 3) := by decide +kernel
theorem dlx_8 : decode prog_29_method_17_code 8 = .ok (.iload_n 1, 1) := by decide +kernel
theorem dlx_9 : decode prog_29_method_17_code 9 = .ok (.iaload, 1) := by decide +kernel
theorem dlx_10 : decode prog_29_method_17_code 10 = .ok (.aaload, 1) := by decide +kernel
theorem dlx_11 : decode prog_29_method_17_code 11 = .ok (.areturn, 1) := by decide +kernel
theorem ef_lx (mI : MethodId) (g : Addr) (tq : Int32) : entryFrame mI #[(.ref g), (.int tq)] 2 = mkF mI 0 #[.val (.ref g), .val (.int tq)] [] := by first | (simp [entryFrame, mkF, argsToLocals, Value.category]; done) | rfl
theorem pn_lx : plainName own_RG = true := by first | decide +kernel | (simp [plainName, overriddenIn]; done)
set_option maxRecDepth 65536 in
set_option maxHeartbeats 40000000 in
theorem rmlx (lL : Launch) (Z : State) (a0 : Array Value) (hw : ∀ d ∈ tables_1, d.before a0 Z = true) (ws : List Jvm.Cond) (g : Addr) (tq : Int32) (c : Addr) (kc : ClassId) (lf : Addr) (klf : ClassId) (z0 : Int32) (z1 : Int32) (z2 : Int32) (zz : Int32) (r0 : Addr) (r1 : Addr) (r2 : Addr) (r3 : Addr) (rr : Addr) (h0 : Heap) (n0 : Nat) (Z0 : n0 ≤ h0.size) (F_lexicalForms_g : Fld Z h0 g own_RG "lexicalForms" "[Ljava/lang/String;" (.ref lf)) (F_literalObjects_g : Fld Z h0 g own_RG "literalObjects" "[I" (.ref c)) (V_c : Arv Z h0 c kc .int (3 : Int32) [(.int z0), (.int z1), (.int z2)] (.int (0 : Int32))) (V_lf : Arv Z h0 lf klf (.object "java/lang/String") (4 : Int32) [(.ref r0), (.ref r1), (.ref r2), (.ref r3)] .null) (ht0 : ¬ tq < 0) (ht1 : tq < (3 : Int32)) (hzz : ([(.int z0), (.int z1), (.int z2)] : List Value).getD tq.toNatClampNeg (.int (0 : Int32)) = (.int zz)) (hz0 : ¬ zz < 0) (hz1 : zz < (4 : Int32)) (hrr : ([(.ref r0), (.ref r1), (.ref r2), (.ref r3)] : List Value).getD zz.toNatClampNeg .null = (.ref rr)) :
    MetFree lL (⟨own_RG, "lexicalForm", "(I)Ljava/lang/String;"⟩ : MethodName) (head1 (Jvm.Cond.code (⟨own_RG, "lexicalForm", "(I)Ljava/lang/String;"⟩ : MethodName) prog_29_method_17_code 2 (some (.object "java/lang/String")) :: ws) ({ frames := 0, cells := 0, slots := 0, locals := 0 } : Room)) (fun a_ U_ => a_ = #[(.ref g), (.int tq)] ∧ Z.Warmed39 U_.vm ∧ U_.heap = h0) (fun _ _ _ _ _ => True) (fun _ U_ o_ W_ => ∃ v_ L_, o_ = .returned v_ ∧ own_QR (.ref rr) h0 n0 v_ W_.heap L_ ∧ FrameEnd U_ o_ W_ L_ ({ frames := 0, cells := 0, slots := 0, locals := 0 } : Room).cells ({ frames := 0, cells := 0, slots := 0, locals := 0 } : Room).slots) := by
  refine MetFree.of_bodySF (plainFor_of_name pn_lx) hisR ?_
  intro pP eE sS mI args below meth cC s₁ Bd hml0 hP hK
  obtain ⟨rfl, hZ, hh⟩ := hP
  have hx := Bd.exec
  have hby := Bd.bytes
  have hml : cC.maxLocals = 2 := hml0
  have hown : sS.vm.findClass own_RG = some mI.cls := by have z := findClass_of_methodNamed Bd.named; exact z
  have hnm := (name_of_methodNamed Bd.named Bd.method).1
  have X0 : Stand pP lL eE ({ frames := 0, cells := 0, slots := 0, locals := 0 } : Room) sS mI #[(.ref g), (.int tq)] below meth cC s₁ [] 0 0 := Stand.of_body Bd
  have e0 : s₁.heap = h0 := by rw [← hh, Bd.state]; rfl
  have N0 := Fr.nil n0
  obtain ⟨G, hG, hst, hend⟩ := own_abs pP eE below sS (own_QR (.ref rr) h0 n0) ({ frames := 0, cells := 0, slots := 0, locals := 0 } : Room).cells ({ frames := 0, cells := 0, slots := 0, locals := 0 } : Room).slots
  refine hG (S := s₁.setTop (entryFrame mI #[(.ref g), (.int tq)] 2)) (hst (fun t_ kt_ => castTop (ef_lx mI g tq) kt_) ?_)
  show G (s₁.setTop (mkF mI 0 #[.val (.ref g), .val (.int tq)] []))
  refine o_aloadN hst X0.here hx (hb hby dlx_0) (pc' := 1) rfl rfl rfl ?_
  obtain ⟨T_1, X_1, e_1, st_1⟩ := getF X0 hx hZ hown (host := "") (Or.inl (own_w323 hw)) Via.refl e0 F_lexicalForms_g (g := (mkF mI 1 #[.val (.ref g), .val (.int tq)] [(.ref g)])) rfl rfl (hb hby dlx_1)
  refine hst st_1 ?_
  show G (T_1.setTop (mkF mI 4 #[.val (.ref g), .val (.int tq)] [(.ref lf)]))
  refine o_aloadN hst X_1.here hx (hb hby dlx_4) (pc' := 5) rfl rfl rfl ?_
  obtain ⟨T_2, X_2, e_2, st_2⟩ := getF X_1 hx hZ hown (host := "") (Or.inl (own_w321 hw)) Via.refl e_1 F_literalObjects_g (g := (mkF mI 5 #[.val (.ref g), .val (.int tq)] [(.ref g), (.ref lf)])) rfl rfl (hb hby dlx_5)
  refine hst st_2 ?_
  show G (T_2.setTop (mkF mI 8 #[.val (.ref g), .val (.int tq)] [(.ref c), (.ref lf)]))
  refine o_iloadN hst X_2.here hx (hb hby dlx_8) (pc' := 9) rfl rfl ?_
  obtain ⟨cl_3, Ar_3, -, S_3, M_3, Hs_3, -⟩ := id V_c
  have hin_3 : ¬ (tq < 0 ∨ cl_3.slots.size ≤ (tq).toNatClampNeg) := inb_of S_3 ⟨ht0, ht1⟩
  have hat_3 : cl_3.slots[(tq).toNatClampNeg]? = some (.int zz) := Has.at Hs_3 hin_3 hzz
  refine hst (X_2.iaload hx (j := tq) (v := (.int zz)) (by rw [e_2]; exact Ar_3.1) (State.isArrayOf_alike hZ.alike Ar_3.2.1) Ar_3.2.2 hin_3 hat_3 (g := (mkF mI 9 #[.val (.ref g), .val (.int tq)] [(.int tq), (.ref c), (.ref lf)])) rfl rfl (hb hby dlx_9)) ?_
  show G (T_2.setTop (mkF mI 10 #[.val (.ref g), .val (.int tq)] [(.int zz), (.ref lf)]))
  obtain ⟨cl_4, Ar_4, -, S_4, M_4, Hs_4, -⟩ := id V_lf
  have hin_4 : ¬ (zz < 0 ∨ cl_4.slots.size ≤ (zz).toNatClampNeg) := inb_of S_4 ⟨hz0, hz1⟩
  have hat_4 : cl_4.slots[(zz).toNatClampNeg]? = some (.ref rr) := Has.at Hs_4 hin_4 hrr
  refine hst (X_2.aaload hx (j := zz) (v := (.ref rr)) (by rw [e_2]; exact Ar_4.1) (State.isArrayOf_alike hZ.alike Ar_4.2.1) rfl Ar_4.2.2 hin_4 hat_4 (g := (mkF mI 10 #[.val (.ref g), .val (.int tq)] [(.int zz), (.ref lf)])) rfl rfl (hb hby dlx_10)) ?_
  show G (T_2.setTop (mkF mI 11 #[.val (.ref g), .val (.int tq)] [(.ref rr)]))
  exact hend (own_goRet X_2 hx Bd.returns rfl (Or.inr (Or.inr (Or.inr (Or.inr ⟨rfl, rfl, rfl⟩)))) (hb hby dlx_11) Bd.notSynchronized (by rw [e_2]; exact ⟨rfl, N0, rfl⟩) (by decide) (by decide))
theorem des_0 : decode jdk_42_method_66_code 0 = .ok (.aload_n 0, 1) := by decide +kernel
theorem des_1 : decode jdk_42_method_66_code 1 = .ok (.aload_n 1, 1) := by decide +kernel
theorem des_2 : decode jdk_42_method_66_code 2 = .ok (.if_acmp .ne 5, 3) := by decide +kernel
theorem des_5 : decode jdk_42_method_66_code 5 = .ok (.iconst 1, 1) := by decide +kernel
theorem des_6 : decode jdk_42_method_66_code 6 = .ok (.ireturn, 1) := by decide +kernel
theorem ef_es (mI : MethodId) (r : Addr) : entryFrame mI #[(.ref r), (.ref r)] 3 = mkF mI 0 #[.val (.ref r), .val (.ref r), .unset] [] := by first | (simp [entryFrame, mkF, argsToLocals, Value.category]; done) | rfl
theorem pn_es : plainName "java/lang/String" = true := by first | decide +kernel | (simp [plainName, overriddenIn]; done)
set_option maxRecDepth 65536 in
set_option maxHeartbeats 40000000 in
theorem rmes (lL : Launch) (Z : State) (a0 : Array Value) (hw : ∀ d ∈ tables_1, d.before a0 Z = true) (ws : List Jvm.Cond) (r : Addr) (h0 : Heap) (n0 : Nat) (Z0 : n0 ≤ h0.size) :
    MetFree lL (⟨"java/lang/String", "equals", "(Ljava/lang/Object;)Z"⟩ : MethodName) (head1 (Jvm.Cond.code (⟨"java/lang/String", "equals", "(Ljava/lang/Object;)Z"⟩ : MethodName) jdk_42_method_66_code 3 (some .boolean) :: ws) ({ frames := 0, cells := 0, slots := 0, locals := 0 } : Room)) (fun a_ U_ => a_ = #[(.ref r), (.ref r)] ∧ Z.Warmed39 U_.vm ∧ U_.heap = h0) (fun _ _ _ _ _ => True) (fun _ U_ o_ W_ => ∃ v_ L_, o_ = .returned v_ ∧ own_QI (1 : Int32) h0 n0 v_ W_.heap L_ ∧ FrameEnd U_ o_ W_ L_ ({ frames := 0, cells := 0, slots := 0, locals := 0 } : Room).cells ({ frames := 0, cells := 0, slots := 0, locals := 0 } : Room).slots) := by
  refine MetFree.of_bodySF (plainFor_of_name pn_es) hisR ?_
  intro pP eE sS mI args below meth cC s₁ Bd hml0 hP hK
  obtain ⟨rfl, hZ, hh⟩ := hP
  have hx := Bd.exec
  have hby := Bd.bytes
  have hml : cC.maxLocals = 3 := hml0
  have hown : sS.vm.findClass "java/lang/String" = some mI.cls := by have z := findClass_of_methodNamed Bd.named; exact z
  have hnm := (name_of_methodNamed Bd.named Bd.method).1
  have X0 : Stand pP lL eE ({ frames := 0, cells := 0, slots := 0, locals := 0 } : Room) sS mI #[(.ref r), (.ref r)] below meth cC s₁ [] 0 0 := Stand.of_body Bd
  have e0 : s₁.heap = h0 := by rw [← hh, Bd.state]; rfl
  have N0 := Fr.nil n0
  obtain ⟨G, hG, hst, hend⟩ := own_abs pP eE below sS (own_QI (1 : Int32) h0 n0) ({ frames := 0, cells := 0, slots := 0, locals := 0 } : Room).cells ({ frames := 0, cells := 0, slots := 0, locals := 0 } : Room).slots
  refine hG (S := s₁.setTop (entryFrame mI #[(.ref r), (.ref r)] 3)) (hst (fun t_ kt_ => castTop (ef_es mI r) kt_) ?_)
  show G (s₁.setTop (mkF mI 0 #[.val (.ref r), .val (.ref r), .unset] []))
  refine o_aloadN hst X0.here hx (hb hby des_0) (pc' := 1) rfl rfl rfl ?_
  refine o_aloadN hst X0.here hx (hb hby des_1) (pc' := 2) rfl rfl rfl ?_
  refine hst (fun _ kt => Jvm.RoadKit.acmp (g := (mkF mI 2 #[.val (.ref r), .val (.ref r), .unset] [(.ref r), (.ref r)])) X0 hx rfl rfl rfl (pc0 := 2) (pc' := 5) (same := true) rfl (hb hby des_2) rfl (decide_eq_true rfl) (by decide) (by decide) kt) ?_
  show G (s₁.setTop (mkF mI 5 #[.val (.ref r), .val (.ref r), .unset] []))
  refine o_iconst hst X0.here hx (hb hby des_5) (pc' := 6) rfl (z := (1 : Int32)) rfl ?_
  exact hend (own_goRet X0 hx Bd.returns rfl (Or.inl ⟨rfl, by simp, _, rfl⟩) (hb hby des_6) Bd.notSynchronized (by rw [e0]; exact ⟨rfl, N0, rfl⟩) (by decide) (by decide))
theorem ef_0 (mI : MethodId) (ob : Int32) (chs : Int32) (qq : Int32) : entryFrame mI #[(.int ob), (.int chs), (.int qq)] maxLocals = mkF mI 0 #[.val (.int ob), .val (.int chs), .val (.int qq), .unset, .unset, .unset, .unset, .unset, .unset, .unset, .unset, .unset, .unset] [] := by first | (simp [entryFrame, mkF, argsToLocals, Value.category, maxLocals]; done) | rfl
theorem pn_0 : plainName x.cls = true := by first | decide +kernel | (simp [plainName, overriddenIn]; done)
set_option maxRecDepth 65536 in
set_option maxHeartbeats 40000000 in
theorem rm0 (lL : Launch) (Z : State) (a0 : Array Value) (hw : ∀ d ∈ tables_1, d.before a0 Z = true) (ws : List Jvm.Cond) (ob : Int32) (chs : Int32) (qq : Int32) (cz : Int32) (h0 : Heap) (n0 : Nat) (Z0 : n0 ≤ h0.size) (S_c : Sta Z h0 "java/lang/String" "COMPACT_STRINGS" "Z" (.int cz)) (hcz : ¬ cz = 0) :
    MetFree lL x (head1 (Jvm.Cond.code x code maxLocals ret :: ws) room_1) (fun a_ U_ => a_ = #[(.int ob), (.int chs), (.int qq)] ∧ Z.Warmed39 U_.vm ∧ U_.heap = h0) (fun _ _ _ _ _ => True) (fun _ U_ o_ W_ => ∃ v_ L_, o_ = .returned v_ ∧ own_Q0 n0 v_ W_.heap L_ ∧ FrameEnd U_ o_ W_ L_ room_1.cells room_1.slots) := by
  refine MetFree.of_bodySF (plainFor_of_name pn_0) hisR ?_
  intro pP eE sS mI args below meth cC s₁ Bd hml0 hP hK
  obtain ⟨rfl, hZ, hh⟩ := hP
  have hx := Bd.exec
  have hby := Bd.bytes
  have hml : cC.maxLocals = 13 := hml0
  have hown : sS.vm.findClass x.cls = some mI.cls := by have z := findClass_of_methodNamed Bd.named; exact z
  have hnm := (name_of_methodNamed Bd.named Bd.method).1
  have X0 : Stand pP lL eE room_1 sS mI #[(.int ob), (.int chs), (.int qq)] below meth cC s₁ [] 0 0 := Stand.of_body Bd
  have e0 : s₁.heap = h0 := by rw [← hh, Bd.state]; rfl
  have N0 := Fr.nil n0
  obtain ⟨G, hG, hst, hend⟩ := own_abs pP eE below sS (own_Q0 n0) room_1.cells room_1.slots
  refine hG (S := s₁.setTop (entryFrame mI #[(.int ob), (.int chs), (.int qq)] maxLocals)) (hst (fun t_ kt_ => castTop (ef_0 mI ob chs qq) kt_) ?_)
  show G (s₁.setTop (mkF mI 0 #[.val (.int ob), .val (.int chs), .val (.int qq), .unset, .unset, .unset, .unset, .unset, .unset, .unset, .unset, .unset, .unset] []))
  refine o_iloadN hst X0.here hx (hb hby at_0) (pc' := 1) rfl rfl ?_
  refine o_iconst hst X0.here hx (hb hby at_1) (pc' := 2) rfl (z := (3 : Int32)) rfl ?_
  refine o_iand hst X0.here hx (hb hby at_2) (pc' := 3) rfl ?_
  have ho0 := own_In_and ob
  generalize (ob &&& (3 : Int32)) = o0 at ho0 ⊢
  show G (s₁.setTop (mkF mI 3 #[.val (.int ob), .val (.int chs), .val (.int qq), .unset, .unset, .unset, .unset, .unset, .unset, .unset, .unset, .unset, .unset] [(.int o0)]))
  refine o_istoreN hst X0.here hx (hb hby at_3) (pc' := 4) rfl (Lt := #[.val (.int ob), .val (.int chs), .val (.int qq), .val (.int o0), .unset, .unset, .unset, .unset, .unset, .unset, .unset, .unset, .unset]) rfl ?_
  refine o_iloadN hst X0.here hx (hb hby at_4) (pc' := 5) rfl rfl ?_
  refine o_iconst hst X0.here hx (hb hby at_5) (pc' := 6) rfl (z := (2 : Int32)) rfl ?_
  refine o_iushr hst X0.here hx (hb hby at_6) (pc' := 7) rfl ?_
  refine o_iconst hst X0.here hx (hb hby at_7) (pc' := 8) rfl (z := (3 : Int32)) rfl ?_
  refine o_iand hst X0.here hx (hb hby at_8) (pc' := 9) rfl ?_
  have ho1 := own_In_and ((ob.toUInt32 >>> ((2 : Int32) &&& 31).toUInt32).toInt32)
  generalize (((ob.toUInt32 >>> ((2 : Int32) &&& 31).toUInt32).toInt32) &&& (3 : Int32)) = o1 at ho1 ⊢
  show G (s₁.setTop (mkF mI 9 #[.val (.int ob), .val (.int chs), .val (.int qq), .val (.int o0), .unset, .unset, .unset, .unset, .unset, .unset, .unset, .unset, .unset] [(.int o1)]))
  refine o_istore hst X0.here hx (hb hby at_9) (pc' := 11) rfl (Lt := #[.val (.int ob), .val (.int chs), .val (.int qq), .val (.int o0), .val (.int o1), .unset, .unset, .unset, .unset, .unset, .unset, .unset, .unset]) rfl ?_
  refine o_iloadN hst X0.here hx (hb hby at_11) (pc' := 12) rfl rfl ?_
  refine o_iconst hst X0.here hx (hb hby at_12) (pc' := 13) rfl (z := (4 : Int32)) rfl ?_
  refine o_iushr hst X0.here hx (hb hby at_13) (pc' := 14) rfl ?_
  refine o_iconst hst X0.here hx (hb hby at_14) (pc' := 15) rfl (z := (3 : Int32)) rfl ?_
  refine o_iand hst X0.here hx (hb hby at_15) (pc' := 16) rfl ?_
  have ho2 := own_In_and ((ob.toUInt32 >>> ((4 : Int32) &&& 31).toUInt32).toInt32)
  generalize (((ob.toUInt32 >>> ((4 : Int32) &&& 31).toUInt32).toInt32) &&& (3 : Int32)) = o2 at ho2 ⊢
  show G (s₁.setTop (mkF mI 16 #[.val (.int ob), .val (.int chs), .val (.int qq), .val (.int o0), .val (.int o1), .unset, .unset, .unset, .unset, .unset, .unset, .unset, .unset] [(.int o2)]))
  refine o_istore hst X0.here hx (hb hby at_16) (pc' := 18) rfl (Lt := #[.val (.int ob), .val (.int chs), .val (.int qq), .val (.int o0), .val (.int o1), .val (.int o2), .unset, .unset, .unset, .unset, .unset, .unset, .unset]) rfl ?_
  refine o_iconst hst X0.here hx (hb hby at_18) (pc' := 19) rfl (z := (4 : Int32)) rfl ?_
  obtain ⟨T_1, h_1, k_lf, X_1, e_1, E_1, A_1, O_lf, st_1⟩ := newR X0 hx hZ hown (own_w0 hw) (own_w1 hw) e0 (g := (mkF mI 19 #[.val (.int ob), .val (.int chs), .val (.int qq), .val (.int o0), .val (.int o1), .val (.int o2), .unset, .unset, .unset, .unset, .unset, .unset, .unset] [(.int (4 : Int32))])) rfl (hb hby at_19) rfl (by decide) (cap := 4) (by decide) (by decide) (by decide) (by decide)
  obtain ⟨lf, g_lf⟩ : ∃ z, z = h0.size := ⟨_, rfl⟩
  rw [← g_lf] at A_1 st_1
  have le_n0_lf : n0 ≤ lf := Nat.le_trans Z0 (Nat.le_of_eq g_lf.symm)
  have Z0 := Nat.le_trans Z0 E_1.1
  have S_c := S_c.ext E_1
  have V_lf : Arv Z h_1 lf k_lf (.object "java/lang/String") (4 : Int32) [.null, .null, .null, .null] .null := (Arv.new A_1 (by decide)).pad (pad_rep [] .null 4)
  refine hst st_1 ?_
  show G (T_1.setTop (mkF mI 22 #[.val (.int ob), .val (.int chs), .val (.int qq), .val (.int o0), .val (.int o1), .val (.int o2), .unset, .unset, .unset, .unset, .unset, .unset, .unset] [(.ref lf)]))
  refine o_astore hst X_1.here hx (hb hby at_22) (pc' := 24) rfl (Lt := #[.val (.int ob), .val (.int chs), .val (.int qq), .val (.int o0), .val (.int o1), .val (.int o2), .val (.ref lf), .unset, .unset, .unset, .unset, .unset, .unset]) rfl rfl ?_
  refine o_aload hst X_1.here hx (hb hby at_24) (pc' := 26) rfl rfl rfl ?_
  refine o_iconst hst X_1.here hx (hb hby at_26) (pc' := 27) rfl (z := (0 : Int32)) rfl ?_
  refine o_iloadN hst X_1.here hx (hb hby at_27) (pc' := 28) rfl rfl ?_
  refine o_sipush hst X_1.here hx (hb hby at_28) (pc' := 31) rfl (z := (255 : Int32)) rfl ?_
  refine o_iand hst X_1.here hx (hb hby at_31) (pc' := 32) rfl ?_
  refine o_i2c hst X_1.here hx (hb hby at_32) (pc' := 33) rfl ?_
  show G (T_1.setTop (mkF mI 33 #[.val (.int ob), .val (.int chs), .val (.int qq), .val (.int o0), .val (.int o1), .val (.int o2), .val (.ref lf), .unset, .unset, .unset, .unset, .unset, .unset] [(.int (own_ch chs)), (.int (0 : Int32)), (.ref lf)]))
  obtain ⟨_, _, ⟨T_2, L_2, k_2, n_2⟩, -, X_2, ⟨Lc_2, hQ_2, l_2, y_2, z_2⟩, st_2⟩ := Jvm.LawKit.callS X_1 hx (y := (⟨"java/lang/String", "valueOf", "(C)Ljava/lang/String;"⟩ : MethodName)) hown (mvT hZ (own_w2 hw)) (mvT hZ (own_w3 hw)) (mvT hZ (own_w4 hw)) (mvT hZ (own_w5 hw)) (by decide) (backOf (W := 2) (rmvo lL Z a0 hw [] (own_ch chs) cz h_1 n0 Z0 S_c hcz (own_ch_le chs)) hZ (own_w5 hw) (own_w4 hw) (by decide) (by decide)) (g := (mkF mI 33 #[.val (.int ob), .val (.int chs), .val (.int qq), .val (.int o0), .val (.int o1), .val (.int o2), .val (.ref lf), .unset, .unset, .unset, .unset, .unset, .unset] [(.int (own_ch chs)), (.int (0 : Int32)), (.ref lf)])) rfl (by rw [hml]; rfl) (argsL := [(.int (own_ch chs))]) (rest := [(.int (0 : Int32)), (.ref lf)]) (lenOf pd_20 rfl) rfl (by show 2 * 0 + _ ≤ _; exact Nat.le_of_eq rfl) (hb hby at_33) (fun _ _ => ⟨rfl, e_1, (by decide : 1 + 2 ≤ _), (by decide : 4 + 5 ≤ _)⟩)
  dsimp only [Pt.U, Pt.locs, Pt.cells, Pt.slots] at X_2 l_2 y_2 z_2 st_2 hQ_2
  subst l_2 y_2 z_2
  obtain ⟨r0, b0, kb0, rfl, N_2q, K_2, -, -, E_r0, -, -, -⟩ := hQ_2
  have S_c := own_Sta_keepL S_c K_2 all0
  have Z0 := Nat.le_trans Z0 K_2.1
  have V_lf := V_lf.keep K_2 nin0
  have N_2 := Fr.app N0 N_2q
  refine hst (fun _ kt => st_2 _ kt) ?_
  show G (T_2.setTop (mkF mI 36 #[.val (.int ob), .val (.int chs), .val (.int qq), .val (.int o0), .val (.int o1), .val (.int o2), .val (.ref lf), .unset, .unset, .unset, .unset, .unset, .unset] [(.ref r0), (.int (0 : Int32)), (.ref lf)]))
  obtain ⟨cl_3, Ar_3, q_3, S_3, M_3, Hs_3, Gs_3⟩ := V_lf
  have hin_3 : ¬ ((0 : Int32) < 0 ∨ cl_3.slots.size ≤ ((0 : Int32)).toNatClampNeg) := inb_of S_3 ⟨by decide, by decide⟩
  obtain ⟨T_3, h_3, X_3, e_3, W_3, st_3⟩ := stR X_2 hx hZ rfl Ar_3 (j := (0 : Int32)) (v := (.ref r0)) hin_3 rfl (Sto.ofV Ar_3 q_3 O_lf (Ins.self E_r0)) (g := (mkF mI 36 #[.val (.int ob), .val (.int chs), .val (.int qq), .val (.int o0), .val (.int o1), .val (.int o2), .val (.ref lf), .unset, .unset, .unset, .unset, .unset, .unset] [(.ref r0), (.int (0 : Int32)), (.ref lf)])) rfl rfl (hb hby at_36)
  have V_lf := Arv.set Ar_3 q_3 S_3 M_3 Hs_3 Gs_3 rfl W_3 0 rfl (Nat.le_of_ble_eq_true rfl)
  have V_lf : Arv Z h_3 lf k_lf (.object "java/lang/String") (4 : Int32) [(.ref r0), .null, .null, .null] .null := V_lf
  have Z0 := Nat.le_trans Z0 (Keep.of_wr W_3).1
  have S_c := S_c.wr W_3
  have E_r0 := E_r0.wr W_3
  have N_3 := Fr.snoc X_3 N_2 le_n0_lf
  refine hst st_3 ?_
  show G (T_3.setTop (mkF mI 37 #[.val (.int ob), .val (.int chs), .val (.int qq), .val (.int o0), .val (.int o1), .val (.int o2), .val (.ref lf), .unset, .unset, .unset, .unset, .unset, .unset] []))
  refine o_aload hst X_3.here hx (hb hby at_37) (pc' := 39) rfl rfl rfl ?_
  refine o_iconst hst X_3.here hx (hb hby at_39) (pc' := 40) rfl (z := (1 : Int32)) rfl ?_
  refine o_iloadN hst X_3.here hx (hb hby at_40) (pc' := 41) rfl rfl ?_
  refine o_bipush hst X_3.here hx (hb hby at_41) (pc' := 43) rfl (z := (8 : Int32)) rfl ?_
  refine o_iushr hst X_3.here hx (hb hby at_43) (pc' := 44) rfl ?_
  generalize ((chs.toUInt32 >>> ((8 : Int32) &&& 31).toUInt32).toInt32) = y1
  show G (T_3.setTop (mkF mI 44 #[.val (.int ob), .val (.int chs), .val (.int qq), .val (.int o0), .val (.int o1), .val (.int o2), .val (.ref lf), .unset, .unset, .unset, .unset, .unset, .unset] [(.int y1), (.int (1 : Int32)), (.ref lf)]))
  refine o_sipush hst X_3.here hx (hb hby at_44) (pc' := 47) rfl (z := (255 : Int32)) rfl ?_
  refine o_iand hst X_3.here hx (hb hby at_47) (pc' := 48) rfl ?_
  refine o_i2c hst X_3.here hx (hb hby at_48) (pc' := 49) rfl ?_
  show G (T_3.setTop (mkF mI 49 #[.val (.int ob), .val (.int chs), .val (.int qq), .val (.int o0), .val (.int o1), .val (.int o2), .val (.ref lf), .unset, .unset, .unset, .unset, .unset, .unset] [(.int (own_ch y1)), (.int (1 : Int32)), (.ref lf)]))
  obtain ⟨_, _, ⟨T_4, L_4, k_4, n_4⟩, -, X_4, ⟨Lc_4, hQ_4, l_4, y_4, z_4⟩, st_4⟩ := Jvm.LawKit.callS X_3 hx (y := (⟨"java/lang/String", "valueOf", "(C)Ljava/lang/String;"⟩ : MethodName)) hown (mvT hZ (own_w2 hw)) (mvT hZ (own_w3 hw)) (mvT hZ (own_w4 hw)) (mvT hZ (own_w5 hw)) (by decide) (backOf (W := 2) (rmvo lL Z a0 hw [] (own_ch y1) cz h_3 n0 Z0 S_c hcz (own_ch_le y1)) hZ (own_w5 hw) (own_w4 hw) (by decide) (by decide)) (g := (mkF mI 49 #[.val (.int ob), .val (.int chs), .val (.int qq), .val (.int o0), .val (.int o1), .val (.int o2), .val (.ref lf), .unset, .unset, .unset, .unset, .unset, .unset] [(.int (own_ch y1)), (.int (1 : Int32)), (.ref lf)])) rfl (by rw [hml]; rfl) (argsL := [(.int (own_ch y1))]) (rest := [(.int (1 : Int32)), (.ref lf)]) (lenOf pd_20 rfl) rfl (by show 2 * 0 + _ ≤ _; exact Nat.le_of_eq rfl) (hb hby at_49) (fun _ _ => ⟨rfl, e_3, (by decide : 3 + 2 ≤ _), (by decide : 9 + 5 ≤ _)⟩)
  dsimp only [Pt.U, Pt.locs, Pt.cells, Pt.slots] at X_4 l_4 y_4 z_4 st_4 hQ_4
  subst l_4 y_4 z_4
  obtain ⟨r1, b1, kb1, rfl, N_4q, K_4, -, -, E_r1, -, -, -⟩ := hQ_4
  have S_c := own_Sta_keepL S_c K_4 all0
  have Z0 := Nat.le_trans Z0 K_4.1
  have E_r0 := E_r0.keep K_4
  have V_lf := V_lf.keep K_4 nin0
  have N_4 := Fr.app N_3 N_4q
  refine hst (fun _ kt => st_4 _ kt) ?_
  show G (T_4.setTop (mkF mI 52 #[.val (.int ob), .val (.int chs), .val (.int qq), .val (.int o0), .val (.int o1), .val (.int o2), .val (.ref lf), .unset, .unset, .unset, .unset, .unset, .unset] [(.ref r1), (.int (1 : Int32)), (.ref lf)]))
  obtain ⟨cl_5, Ar_5, q_5, S_5, M_5, Hs_5, Gs_5⟩ := V_lf
  have hin_5 : ¬ ((1 : Int32) < 0 ∨ cl_5.slots.size ≤ ((1 : Int32)).toNatClampNeg) := inb_of S_5 ⟨by decide, by decide⟩
  obtain ⟨T_5, h_5, X_5, e_5, W_5, st_5⟩ := stR X_4 hx hZ rfl Ar_5 (j := (1 : Int32)) (v := (.ref r1)) hin_5 rfl (Sto.ofV Ar_5 q_5 O_lf (Ins.self E_r1)) (g := (mkF mI 52 #[.val (.int ob), .val (.int chs), .val (.int qq), .val (.int o0), .val (.int o1), .val (.int o2), .val (.ref lf), .unset, .unset, .unset, .unset, .unset, .unset] [(.ref r1), (.int (1 : Int32)), (.ref lf)])) rfl rfl (hb hby at_52)
  have V_lf := Arv.set Ar_5 q_5 S_5 M_5 Hs_5 Gs_5 rfl W_5 1 rfl (Nat.le_of_ble_eq_true rfl)
  have V_lf : Arv Z h_5 lf k_lf (.object "java/lang/String") (4 : Int32) [(.ref r0), (.ref r1), .null, .null] .null := V_lf
  have Z0 := Nat.le_trans Z0 (Keep.of_wr W_5).1
  have S_c := S_c.wr W_5
  have E_r0 := E_r0.wr W_5
  have E_r1 := E_r1.wr W_5
  have N_5 := Fr.snoc X_5 N_4 le_n0_lf
  refine hst st_5 ?_
  show G (T_5.setTop (mkF mI 53 #[.val (.int ob), .val (.int chs), .val (.int qq), .val (.int o0), .val (.int o1), .val (.int o2), .val (.ref lf), .unset, .unset, .unset, .unset, .unset, .unset] []))
  refine o_aload hst X_5.here hx (hb hby at_53) (pc' := 55) rfl rfl rfl ?_
  refine o_iconst hst X_5.here hx (hb hby at_55) (pc' := 56) rfl (z := (2 : Int32)) rfl ?_
  refine o_iloadN hst X_5.here hx (hb hby at_56) (pc' := 57) rfl rfl ?_
  refine o_bipush hst X_5.here hx (hb hby at_57) (pc' := 59) rfl (z := (16 : Int32)) rfl ?_
  refine o_iushr hst X_5.here hx (hb hby at_59) (pc' := 60) rfl ?_
  generalize ((chs.toUInt32 >>> ((16 : Int32) &&& 31).toUInt32).toInt32) = y2
  show G (T_5.setTop (mkF mI 60 #[.val (.int ob), .val (.int chs), .val (.int qq), .val (.int o0), .val (.int o1), .val (.int o2), .val (.ref lf), .unset, .unset, .unset, .unset, .unset, .unset] [(.int y2), (.int (2 : Int32)), (.ref lf)]))
  refine o_sipush hst X_5.here hx (hb hby at_60) (pc' := 63) rfl (z := (255 : Int32)) rfl ?_
  refine o_iand hst X_5.here hx (hb hby at_63) (pc' := 64) rfl ?_
  refine o_i2c hst X_5.here hx (hb hby at_64) (pc' := 65) rfl ?_
  show G (T_5.setTop (mkF mI 65 #[.val (.int ob), .val (.int chs), .val (.int qq), .val (.int o0), .val (.int o1), .val (.int o2), .val (.ref lf), .unset, .unset, .unset, .unset, .unset, .unset] [(.int (own_ch y2)), (.int (2 : Int32)), (.ref lf)]))
  obtain ⟨_, _, ⟨T_6, L_6, k_6, n_6⟩, -, X_6, ⟨Lc_6, hQ_6, l_6, y_6, z_6⟩, st_6⟩ := Jvm.LawKit.callS X_5 hx (y := (⟨"java/lang/String", "valueOf", "(C)Ljava/lang/String;"⟩ : MethodName)) hown (mvT hZ (own_w2 hw)) (mvT hZ (own_w3 hw)) (mvT hZ (own_w4 hw)) (mvT hZ (own_w5 hw)) (by decide) (backOf (W := 2) (rmvo lL Z a0 hw [] (own_ch y2) cz h_5 n0 Z0 S_c hcz (own_ch_le y2)) hZ (own_w5 hw) (own_w4 hw) (by decide) (by decide)) (g := (mkF mI 65 #[.val (.int ob), .val (.int chs), .val (.int qq), .val (.int o0), .val (.int o1), .val (.int o2), .val (.ref lf), .unset, .unset, .unset, .unset, .unset, .unset] [(.int (own_ch y2)), (.int (2 : Int32)), (.ref lf)])) rfl (by rw [hml]; rfl) (argsL := [(.int (own_ch y2))]) (rest := [(.int (2 : Int32)), (.ref lf)]) (lenOf pd_20 rfl) rfl (by show 2 * 0 + _ ≤ _; exact Nat.le_of_eq rfl) (hb hby at_65) (fun _ _ => ⟨rfl, e_5, (by decide : 5 + 2 ≤ _), (by decide : 14 + 5 ≤ _)⟩)
  dsimp only [Pt.U, Pt.locs, Pt.cells, Pt.slots] at X_6 l_6 y_6 z_6 st_6 hQ_6
  subst l_6 y_6 z_6
  obtain ⟨r2, b2, kb2, rfl, N_6q, K_6, -, -, E_r2, -, -, -⟩ := hQ_6
  have S_c := own_Sta_keepL S_c K_6 all0
  have Z0 := Nat.le_trans Z0 K_6.1
  have E_r0 := E_r0.keep K_6
  have E_r1 := E_r1.keep K_6
  have V_lf := V_lf.keep K_6 nin0
  have N_6 := Fr.app N_5 N_6q
  refine hst (fun _ kt => st_6 _ kt) ?_
  show G (T_6.setTop (mkF mI 68 #[.val (.int ob), .val (.int chs), .val (.int qq), .val (.int o0), .val (.int o1), .val (.int o2), .val (.ref lf), .unset, .unset, .unset, .unset, .unset, .unset] [(.ref r2), (.int (2 : Int32)), (.ref lf)]))
  obtain ⟨cl_7, Ar_7, q_7, S_7, M_7, Hs_7, Gs_7⟩ := V_lf
  have hin_7 : ¬ ((2 : Int32) < 0 ∨ cl_7.slots.size ≤ ((2 : Int32)).toNatClampNeg) := inb_of S_7 ⟨by decide, by decide⟩
  obtain ⟨T_7, h_7, X_7, e_7, W_7, st_7⟩ := stR X_6 hx hZ rfl Ar_7 (j := (2 : Int32)) (v := (.ref r2)) hin_7 rfl (Sto.ofV Ar_7 q_7 O_lf (Ins.self E_r2)) (g := (mkF mI 68 #[.val (.int ob), .val (.int chs), .val (.int qq), .val (.int o0), .val (.int o1), .val (.int o2), .val (.ref lf), .unset, .unset, .unset, .unset, .unset, .unset] [(.ref r2), (.int (2 : Int32)), (.ref lf)])) rfl rfl (hb hby at_68)
  have V_lf := Arv.set Ar_7 q_7 S_7 M_7 Hs_7 Gs_7 rfl W_7 2 rfl (Nat.le_of_ble_eq_true rfl)
  have V_lf : Arv Z h_7 lf k_lf (.object "java/lang/String") (4 : Int32) [(.ref r0), (.ref r1), (.ref r2), .null] .null := V_lf
  have Z0 := Nat.le_trans Z0 (Keep.of_wr W_7).1
  have S_c := S_c.wr W_7
  have E_r0 := E_r0.wr W_7
  have E_r1 := E_r1.wr W_7
  have E_r2 := E_r2.wr W_7
  have N_7 := Fr.snoc X_7 N_6 le_n0_lf
  refine hst st_7 ?_
  show G (T_7.setTop (mkF mI 69 #[.val (.int ob), .val (.int chs), .val (.int qq), .val (.int o0), .val (.int o1), .val (.int o2), .val (.ref lf), .unset, .unset, .unset, .unset, .unset, .unset] []))
  refine o_aload hst X_7.here hx (hb hby at_69) (pc' := 71) rfl rfl rfl ?_
  refine o_iconst hst X_7.here hx (hb hby at_71) (pc' := 72) rfl (z := (3 : Int32)) rfl ?_
  refine o_iloadN hst X_7.here hx (hb hby at_72) (pc' := 73) rfl rfl ?_
  refine o_bipush hst X_7.here hx (hb hby at_73) (pc' := 75) rfl (z := (24 : Int32)) rfl ?_
  refine o_iushr hst X_7.here hx (hb hby at_75) (pc' := 76) rfl ?_
  generalize ((chs.toUInt32 >>> ((24 : Int32) &&& 31).toUInt32).toInt32) = y3
  show G (T_7.setTop (mkF mI 76 #[.val (.int ob), .val (.int chs), .val (.int qq), .val (.int o0), .val (.int o1), .val (.int o2), .val (.ref lf), .unset, .unset, .unset, .unset, .unset, .unset] [(.int y3), (.int (3 : Int32)), (.ref lf)]))
  refine o_sipush hst X_7.here hx (hb hby at_76) (pc' := 79) rfl (z := (255 : Int32)) rfl ?_
  refine o_iand hst X_7.here hx (hb hby at_79) (pc' := 80) rfl ?_
  refine o_i2c hst X_7.here hx (hb hby at_80) (pc' := 81) rfl ?_
  show G (T_7.setTop (mkF mI 81 #[.val (.int ob), .val (.int chs), .val (.int qq), .val (.int o0), .val (.int o1), .val (.int o2), .val (.ref lf), .unset, .unset, .unset, .unset, .unset, .unset] [(.int (own_ch y3)), (.int (3 : Int32)), (.ref lf)]))
  obtain ⟨_, _, ⟨T_8, L_8, k_8, n_8⟩, -, X_8, ⟨Lc_8, hQ_8, l_8, y_8, z_8⟩, st_8⟩ := Jvm.LawKit.callS X_7 hx (y := (⟨"java/lang/String", "valueOf", "(C)Ljava/lang/String;"⟩ : MethodName)) hown (mvT hZ (own_w2 hw)) (mvT hZ (own_w3 hw)) (mvT hZ (own_w4 hw)) (mvT hZ (own_w5 hw)) (by decide) (backOf (W := 2) (rmvo lL Z a0 hw [] (own_ch y3) cz h_7 n0 Z0 S_c hcz (own_ch_le y3)) hZ (own_w5 hw) (own_w4 hw) (by decide) (by decide)) (g := (mkF mI 81 #[.val (.int ob), .val (.int chs), .val (.int qq), .val (.int o0), .val (.int o1), .val (.int o2), .val (.ref lf), .unset, .unset, .unset, .unset, .unset, .unset] [(.int (own_ch y3)), (.int (3 : Int32)), (.ref lf)])) rfl (by rw [hml]; rfl) (argsL := [(.int (own_ch y3))]) (rest := [(.int (3 : Int32)), (.ref lf)]) (lenOf pd_20 rfl) rfl (by show 2 * 0 + _ ≤ _; exact Nat.le_of_eq rfl) (hb hby at_81) (fun _ _ => ⟨rfl, e_7, (by decide : 7 + 2 ≤ _), (by decide : 19 + 5 ≤ _)⟩)
  dsimp only [Pt.U, Pt.locs, Pt.cells, Pt.slots] at X_8 l_8 y_8 z_8 st_8 hQ_8
  subst l_8 y_8 z_8
  obtain ⟨r3, b3, kb3, rfl, N_8q, K_8, -, -, E_r3, -, -, -⟩ := hQ_8
  have S_c := own_Sta_keepL S_c K_8 all0
  have Z0 := Nat.le_trans Z0 K_8.1
  have E_r0 := E_r0.keep K_8
  have E_r1 := E_r1.keep K_8
  have E_r2 := E_r2.keep K_8
  have V_lf := V_lf.keep K_8 nin0
  have N_8 := Fr.app N_7 N_8q
  refine hst (fun _ kt => st_8 _ kt) ?_
  show G (T_8.setTop (mkF mI 84 #[.val (.int ob), .val (.int chs), .val (.int qq), .val (.int o0), .val (.int o1), .val (.int o2), .val (.ref lf), .unset, .unset, .unset, .unset, .unset, .unset] [(.ref r3), (.int (3 : Int32)), (.ref lf)]))
  obtain ⟨cl_9, Ar_9, q_9, S_9, M_9, Hs_9, Gs_9⟩ := V_lf
  have hin_9 : ¬ ((3 : Int32) < 0 ∨ cl_9.slots.size ≤ ((3 : Int32)).toNatClampNeg) := inb_of S_9 ⟨by decide, by decide⟩
  obtain ⟨T_9, h_9, X_9, e_9, W_9, st_9⟩ := stR X_8 hx hZ rfl Ar_9 (j := (3 : Int32)) (v := (.ref r3)) hin_9 rfl (Sto.ofV Ar_9 q_9 O_lf (Ins.self E_r3)) (g := (mkF mI 84 #[.val (.int ob), .val (.int chs), .val (.int qq), .val (.int o0), .val (.int o1), .val (.int o2), .val (.ref lf), .unset, .unset, .unset, .unset, .unset, .unset] [(.ref r3), (.int (3 : Int32)), (.ref lf)])) rfl rfl (hb hby at_84)
  have V_lf := Arv.set Ar_9 q_9 S_9 M_9 Hs_9 Gs_9 rfl W_9 3 rfl (Nat.le_of_ble_eq_true rfl)
  have V_lf : Arv Z h_9 lf k_lf (.object "java/lang/String") (4 : Int32) [(.ref r0), (.ref r1), (.ref r2), (.ref r3)] .null := V_lf
  have Z0 := Nat.le_trans Z0 (Keep.of_wr W_9).1
  have S_c := S_c.wr W_9
  have E_r0 := E_r0.wr W_9
  have E_r1 := E_r1.wr W_9
  have E_r2 := E_r2.wr W_9
  have E_r3 := E_r3.wr W_9
  have N_9 := Fr.snoc X_9 N_8 le_n0_lf
  refine hst st_9 ?_
  show G (T_9.setTop (mkF mI 85 #[.val (.int ob), .val (.int chs), .val (.int qq), .val (.int o0), .val (.int o1), .val (.int o2), .val (.ref lf), .unset, .unset, .unset, .unset, .unset, .unset] []))
  refine o_iloadN hst X_9.here hx (hb hby at_85) (pc' := 86) rfl rfl ?_
  refine hst (X_9.ldcInt hx hown (mvT hZ (own_w28 hw)) (g := (mkF mI 86 #[.val (.int ob), .val (.int chs), .val (.int qq), .val (.int o0), .val (.int o1), .val (.int o2), .val (.ref lf), .unset, .unset, .unset, .unset, .unset, .unset] [(.int qq)])) rfl (hb hby at_86)) ?_
  show G (T_9.setTop (mkF mI 88 #[.val (.int ob), .val (.int chs), .val (.int qq), .val (.int o0), .val (.int o1), .val (.int o2), .val (.ref lf), .unset, .unset, .unset, .unset, .unset, .unset] [(.int (2147483647 : Int32)), (.int qq)]))
  refine o_iand hst X_9.here hx (hb hby at_88) (pc' := 89) rfl ?_
  refine o_iconst hst X_9.here hx (hb hby at_89) (pc' := 90) rfl (z := (3 : Int32)) rfl ?_
  refine hst (fun _ kt => iremM X_9 hx rfl (hb hby at_90) rfl (by decide) kt) ?_
  show G (T_9.setTop (mkF mI 91 #[.val (.int ob), .val (.int chs), .val (.int qq), .val (.int o0), .val (.int o1), .val (.int o2), .val (.ref lf), .unset, .unset, .unset, .unset, .unset, .unset] [(.int ((qq &&& (2147483647 : Int32)) % (3 : Int32)))]))
  have ht := own_t3 qq
  generalize ((qq &&& (2147483647 : Int32)) % (3 : Int32)) = tq at ht ⊢
  show G (T_9.setTop (mkF mI 91 #[.val (.int ob), .val (.int chs), .val (.int qq), .val (.int o0), .val (.int o1), .val (.int o2), .val (.ref lf), .unset, .unset, .unset, .unset, .unset, .unset] [(.int tq)]))
  refine o_istore hst X_9.here hx (hb hby at_91) (pc' := 93) rfl (Lt := #[.val (.int ob), .val (.int chs), .val (.int qq), .val (.int o0), .val (.int o1), .val (.int o2), .val (.ref lf), .val (.int tq), .unset, .unset, .unset, .unset, .unset]) rfl ?_
  obtain ⟨T_10, h_10, X_10, e_10, E_10, A_10, D_10, -, st_10⟩ := newO X_9 hx hZ hown (own_w29 hw) (own_w30 hw) (own_w31 hw) e_9 (g := (mkF mI 93 #[.val (.int ob), .val (.int chs), .val (.int qq), .val (.int o0), .val (.int o1), .val (.int o2), .val (.ref lf), .val (.int tq), .unset, .unset, .unset, .unset, .unset] [])) rfl (hb hby at_93) (by decide) (by decide)
  obtain ⟨t1, g_t1⟩ : ∃ z, z = h_9.size := ⟨_, rfl⟩
  rw [← g_t1] at A_10 D_10 st_10
  have ne_lf_t1 : lf ≠ t1 := Nat.ne_of_lt (Nat.lt_of_lt_of_le V_lf.lt (Nat.le_of_eq g_t1.symm))
  have le_n0_t1 : n0 ≤ t1 := Nat.le_trans Z0 (Nat.le_of_eq g_t1.symm)
  have Z0 := Nat.le_trans Z0 E_10.1
  have E_r0 := E_r0.ext E_10
  have E_r1 := E_r1.ext E_10
  have E_r2 := E_r2.ext E_10
  have E_r3 := E_r3.ext E_10
  have V_lf := V_lf.ext E_10
  have E_t1 : Exa Z h_10 t1 own_TT := A_10
  have F_subjects_t1 : Fld Z h_10 t1 own_TT "subjects" "[I" .null := D_10 (Or.inl (own_w38 hw)) (ty := (.array .int)) (by decide)
  have F_predicates_t1 : Fld Z h_10 t1 own_TT "predicates" "[I" .null := D_10 (Or.inl (own_w40 hw)) (ty := (.array .int)) (by decide)
  have F_objects_t1 : Fld Z h_10 t1 own_TT "objects" "[I" .null := D_10 (Or.inl (own_w42 hw)) (ty := (.array .int)) (by decide)
  have F_firstGraphs_t1 : Fld Z h_10 t1 own_TT "firstGraphs" "[I" .null := D_10 (Or.inl (own_w44 hw)) (ty := (.array .int)) (by decide)
  have F_otherGraphs_t1 : Fld Z h_10 t1 own_TT "otherGraphs" "Ljava/util/Set;" .null := D_10 (Or.inr (own_w115 hw)) (ty := (.object "java/util/Set")) (by decide)
  have F_table_t1 : Fld Z h_10 t1 own_TT "table" "[I" .null := D_10 (Or.inl (own_w117 hw)) (ty := (.array .int)) (by decide)
  have F_size_t1 : Fld Z h_10 t1 own_TT "size" "I" (.int (0 : Int32)) := D_10 (Or.inl (own_w130 hw)) (ty := .int) (by decide)
  refine hst st_10 ?_
  show G (T_10.setTop (mkF mI 96 #[.val (.int ob), .val (.int chs), .val (.int qq), .val (.int o0), .val (.int o1), .val (.int o2), .val (.ref lf), .val (.int tq), .unset, .unset, .unset, .unset, .unset] [(.ref t1)]))
  refine o_dup hst X_10.here hx (hb hby at_96) (pc' := 97) rfl rfl ?_
  obtain ⟨_, _, ⟨T_11, L_11, k_11, n_11⟩, -, X_11, ⟨Lc_11, hQ_11, l_11, y_11, z_11⟩, st_11⟩ := X_10.specialBack hx (y := (⟨own_TT, "<init>", "()V"⟩ : MethodName)) rfl hown (mvT hZ (own_w32 hw)) (mvT hZ (own_w33 hw)) (mvT hZ (own_w34 hw)) (by decide) (backOf (W := 1) (rmtt lL Z a0 hw [] t1  h_10 n0 Z0 F_subjects_t1 F_predicates_t1 F_objects_t1 F_firstGraphs_t1 F_table_t1 F_otherGraphs_t1 F_size_t1 E_t1 le_n0_t1) hZ (own_w34 hw) (own_w31 hw) (by decide) (by decide)) (g := (mkF mI 97 #[.val (.int ob), .val (.int chs), .val (.int qq), .val (.int o0), .val (.int o1), .val (.int o2), .val (.ref lf), .val (.int tq), .unset, .unset, .unset, .unset, .unset] [(.ref t1), (.ref t1)])) rfl (by rw [hml]; rfl) (Steps.refl _) (a := t1) (argsL := []) (rest := [(.ref t1)]) (lenOf pd_0 rfl) rfl (by show 2 * 0 + _ ≤ _; exact Nat.le_of_eq rfl) (hb hby at_97) (fun _ _ => ⟨rfl, e_10, (by decide : 10 + 7 ≤ _), (by decide : 31 + 6157 ≤ _)⟩)
  dsimp only [Pt.U, Pt.locs, Pt.cells, Pt.slots] at X_11 l_11 y_11 z_11 st_11 hQ_11
  subst l_11 y_11 z_11
  obtain ⟨rfl, N_11q, K_11, s1, m1, bs1, bp1, bo1, bf1, bt1, k_bs1, k_bp1, k_bo1, k_bf1, k_bt1, ⟨leg_s1, leg_m1, leg_bs1, leg_bp1, leg_bo1, leg_bf1, leg_bt1⟩, ne_bs1_bp1, ne_bs1_bo1, ne_bs1_bf1, ne_bs1_bt1, ne_bp1_bo1, ne_bp1_bf1, ne_bp1_bt1, ne_bo1_bf1, ne_bo1_bt1, ne_bf1_bt1, GE_t1, GF_subjects_t1, GF_predicates_t1, GF_objects_t1, GF_firstGraphs_t1, GF_table_t1, GF_otherGraphs_t1, GF_size_t1, GE_s1, GF_map_s1, GE_m1, GF_size_m1, GF_keySet_m1, GF_head_m1, GF_modCount_m1, GV_bs1, GV_bp1, GV_bo1, GV_bf1, GV_bt1⟩ := hQ_11
  have ne_lf_s1 : lf ≠ s1 := Nat.ne_of_lt (Nat.lt_of_lt_of_le V_lf.lt leg_s1)
  have ne_t1_s1 : t1 ≠ s1 := Nat.ne_of_lt (Nat.lt_of_lt_of_le E_t1.lt leg_s1)
  have le_n0_s1 := Nat.le_trans Z0 leg_s1
  have ne_lf_m1 : lf ≠ m1 := Nat.ne_of_lt (Nat.lt_of_lt_of_le V_lf.lt leg_m1)
  have ne_t1_m1 : t1 ≠ m1 := Nat.ne_of_lt (Nat.lt_of_lt_of_le E_t1.lt leg_m1)
  have le_n0_m1 := Nat.le_trans Z0 leg_m1
  have ne_lf_bs1 : lf ≠ bs1 := Nat.ne_of_lt (Nat.lt_of_lt_of_le V_lf.lt leg_bs1)
  have ne_t1_bs1 : t1 ≠ bs1 := Nat.ne_of_lt (Nat.lt_of_lt_of_le E_t1.lt leg_bs1)
  have le_n0_bs1 := Nat.le_trans Z0 leg_bs1
  have ne_lf_bp1 : lf ≠ bp1 := Nat.ne_of_lt (Nat.lt_of_lt_of_le V_lf.lt leg_bp1)
  have ne_t1_bp1 : t1 ≠ bp1 := Nat.ne_of_lt (Nat.lt_of_lt_of_le E_t1.lt leg_bp1)
  have le_n0_bp1 := Nat.le_trans Z0 leg_bp1
  have ne_lf_bo1 : lf ≠ bo1 := Nat.ne_of_lt (Nat.lt_of_lt_of_le V_lf.lt leg_bo1)
  have ne_t1_bo1 : t1 ≠ bo1 := Nat.ne_of_lt (Nat.lt_of_lt_of_le E_t1.lt leg_bo1)
  have le_n0_bo1 := Nat.le_trans Z0 leg_bo1
  have ne_lf_bf1 : lf ≠ bf1 := Nat.ne_of_lt (Nat.lt_of_lt_of_le V_lf.lt leg_bf1)
  have ne_t1_bf1 : t1 ≠ bf1 := Nat.ne_of_lt (Nat.lt_of_lt_of_le E_t1.lt leg_bf1)
  have le_n0_bf1 := Nat.le_trans Z0 leg_bf1
  have ne_lf_bt1 : lf ≠ bt1 := Nat.ne_of_lt (Nat.lt_of_lt_of_le V_lf.lt leg_bt1)
  have ne_t1_bt1 : t1 ≠ bt1 := Nat.ne_of_lt (Nat.lt_of_lt_of_le E_t1.lt leg_bt1)
  have le_n0_bt1 := Nat.le_trans Z0 leg_bt1
  have Z0 := Nat.le_trans Z0 K_11.1
  have E_r0 := E_r0.keep K_11
  have E_r1 := E_r1.keep K_11
  have E_r2 := E_r2.keep K_11
  have E_r3 := E_r3.keep K_11
  have V_lf := V_lf.keep K_11 (ninS ne_lf_t1 nin0)
  have E_t1 := E_t1.keep K_11
  have E_t1 := GE_t1
  have F_subjects_t1 := GF_subjects_t1
  have F_predicates_t1 := GF_predicates_t1
  have F_objects_t1 := GF_objects_t1
  have F_firstGraphs_t1 := GF_firstGraphs_t1
  have F_table_t1 := GF_table_t1
  have F_otherGraphs_t1 := GF_otherGraphs_t1
  have F_size_t1 := GF_size_t1
  have E_s1 := GE_s1
  have F_map_s1 := GF_map_s1
  have E_m1 := GE_m1
  have F_size_m1 := GF_size_m1
  have F_keySet_m1 := GF_keySet_m1
  have F_head_m1 := GF_head_m1
  have F_modCount_m1 := GF_modCount_m1
  have V_bs1 := GV_bs1
  have V_bp1 := GV_bp1
  have V_bo1 := GV_bo1
  have V_bf1 := GV_bf1
  have V_bt1 := GV_bt1
  have N_11 := Fr.app N_9 N_11q
  refine hst (fun _ kt => st_11.trans kt) ?_
  show G (T_11.setTop (mkF mI 100 #[.val (.int ob), .val (.int chs), .val (.int qq), .val (.int o0), .val (.int o1), .val (.int o2), .val (.ref lf), .val (.int tq), .unset, .unset, .unset, .unset, .unset] [(.ref t1)]))
  refine o_astore hst X_11.here hx (hb hby at_100) (pc' := 102) rfl (Lt := #[.val (.int ob), .val (.int chs), .val (.int qq), .val (.int o0), .val (.int o1), .val (.int o2), .val (.ref lf), .val (.int tq), .val (.ref t1), .unset, .unset, .unset, .unset]) rfl rfl ?_
  obtain ⟨T_12, h_12, X_12, e_12, E_12, A_12, D_12, -, st_12⟩ := newO X_11 hx hZ hown (own_w29 hw) (own_w30 hw) (own_w31 hw) rfl (g := (mkF mI 102 #[.val (.int ob), .val (.int chs), .val (.int qq), .val (.int o0), .val (.int o1), .val (.int o2), .val (.ref lf), .val (.int tq), .val (.ref t1), .unset, .unset, .unset, .unset] [])) rfl (hb hby at_102) (by decide) (by decide)
  obtain ⟨t2, g_t2⟩ : ∃ z, z = T_11.heap.size := ⟨_, rfl⟩
  rw [← g_t2] at A_12 D_12 st_12
  have ne_lf_t2 : lf ≠ t2 := Nat.ne_of_lt (Nat.lt_of_lt_of_le V_lf.lt (Nat.le_of_eq g_t2.symm))
  have ne_t1_t2 : t1 ≠ t2 := Nat.ne_of_lt (Nat.lt_of_lt_of_le E_t1.lt (Nat.le_of_eq g_t2.symm))
  have ne_s1_t2 : s1 ≠ t2 := Nat.ne_of_lt (Nat.lt_of_lt_of_le E_s1.lt (Nat.le_of_eq g_t2.symm))
  have ne_m1_t2 : m1 ≠ t2 := Nat.ne_of_lt (Nat.lt_of_lt_of_le E_m1.lt (Nat.le_of_eq g_t2.symm))
  have ne_bs1_t2 : bs1 ≠ t2 := Nat.ne_of_lt (Nat.lt_of_lt_of_le V_bs1.lt (Nat.le_of_eq g_t2.symm))
  have ne_bp1_t2 : bp1 ≠ t2 := Nat.ne_of_lt (Nat.lt_of_lt_of_le V_bp1.lt (Nat.le_of_eq g_t2.symm))
  have ne_bo1_t2 : bo1 ≠ t2 := Nat.ne_of_lt (Nat.lt_of_lt_of_le V_bo1.lt (Nat.le_of_eq g_t2.symm))
  have ne_bf1_t2 : bf1 ≠ t2 := Nat.ne_of_lt (Nat.lt_of_lt_of_le V_bf1.lt (Nat.le_of_eq g_t2.symm))
  have le_n0_t2 : n0 ≤ t2 := Nat.le_trans Z0 (Nat.le_of_eq g_t2.symm)
  have Z0 := Nat.le_trans Z0 E_12.1
  have E_r0 := E_r0.ext E_12
  have E_r1 := E_r1.ext E_12
  have E_r2 := E_r2.ext E_12
  have E_r3 := E_r3.ext E_12
  have V_lf := V_lf.ext E_12
  have E_t1 := E_t1.ext E_12
  have F_subjects_t1 := F_subjects_t1.ext E_12
  have F_predicates_t1 := F_predicates_t1.ext E_12
  have F_objects_t1 := F_objects_t1.ext E_12
  have F_firstGraphs_t1 := F_firstGraphs_t1.ext E_12
  have F_otherGraphs_t1 := F_otherGraphs_t1.ext E_12
  have F_size_t1 := F_size_t1.ext E_12
  have E_s1 := E_s1.ext E_12
  have F_map_s1 := F_map_s1.ext E_12
  have E_m1 := E_m1.ext E_12
  have F_size_m1 := F_size_m1.ext E_12
  have F_keySet_m1 := F_keySet_m1.ext E_12
  have F_head_m1 := F_head_m1.ext E_12
  have F_modCount_m1 := F_modCount_m1.ext E_12
  have V_bs1 := V_bs1.ext E_12
  have V_bp1 := V_bp1.ext E_12
  have V_bo1 := V_bo1.ext E_12
  have V_bf1 := V_bf1.ext E_12
  have E_t2 : Exa Z h_12 t2 own_TT := A_12
  have F_subjects_t2 : Fld Z h_12 t2 own_TT "subjects" "[I" .null := D_12 (Or.inl (own_w38 hw)) (ty := (.array .int)) (by decide)
  have F_predicates_t2 : Fld Z h_12 t2 own_TT "predicates" "[I" .null := D_12 (Or.inl (own_w40 hw)) (ty := (.array .int)) (by decide)
  have F_objects_t2 : Fld Z h_12 t2 own_TT "objects" "[I" .null := D_12 (Or.inl (own_w42 hw)) (ty := (.array .int)) (by decide)
  have F_firstGraphs_t2 : Fld Z h_12 t2 own_TT "firstGraphs" "[I" .null := D_12 (Or.inl (own_w44 hw)) (ty := (.array .int)) (by decide)
  have F_otherGraphs_t2 : Fld Z h_12 t2 own_TT "otherGraphs" "Ljava/util/Set;" .null := D_12 (Or.inr (own_w115 hw)) (ty := (.object "java/util/Set")) (by decide)
  have F_table_t2 : Fld Z h_12 t2 own_TT "table" "[I" .null := D_12 (Or.inl (own_w117 hw)) (ty := (.array .int)) (by decide)
  have F_size_t2 : Fld Z h_12 t2 own_TT "size" "I" (.int (0 : Int32)) := D_12 (Or.inl (own_w130 hw)) (ty := .int) (by decide)
  refine hst st_12 ?_
  show G (T_12.setTop (mkF mI 105 #[.val (.int ob), .val (.int chs), .val (.int qq), .val (.int o0), .val (.int o1), .val (.int o2), .val (.ref lf), .val (.int tq), .val (.ref t1), .unset, .unset, .unset, .unset] [(.ref t2)]))
  refine o_dup hst X_12.here hx (hb hby at_105) (pc' := 106) rfl rfl ?_
  obtain ⟨_, _, ⟨T_13, L_13, k_13, n_13⟩, -, X_13, ⟨Lc_13, hQ_13, l_13, y_13, z_13⟩, st_13⟩ := X_12.specialBack hx (y := (⟨own_TT, "<init>", "()V"⟩ : MethodName)) rfl hown (mvT hZ (own_w32 hw)) (mvT hZ (own_w33 hw)) (mvT hZ (own_w34 hw)) (by decide) (backOf (W := 1) (rmtt lL Z a0 hw [] t2  h_12 n0 Z0 F_subjects_t2 F_predicates_t2 F_objects_t2 F_firstGraphs_t2 F_table_t2 F_otherGraphs_t2 F_size_t2 E_t2 le_n0_t2) hZ (own_w34 hw) (own_w31 hw) (by decide) (by decide)) (g := (mkF mI 106 #[.val (.int ob), .val (.int chs), .val (.int qq), .val (.int o0), .val (.int o1), .val (.int o2), .val (.ref lf), .val (.int tq), .val (.ref t1), .unset, .unset, .unset, .unset] [(.ref t2), (.ref t2)])) rfl (by rw [hml]; rfl) (Steps.refl _) (a := t2) (argsL := []) (rest := [(.ref t2)]) (lenOf pd_0 rfl) rfl (by show 2 * 0 + _ ≤ _; exact Nat.le_of_eq rfl) (hb hby at_106) (fun _ _ => ⟨rfl, e_12, (by decide : 18 + 7 ≤ _), (by decide : 6195 + 6157 ≤ _)⟩)
  dsimp only [Pt.U, Pt.locs, Pt.cells, Pt.slots] at X_13 l_13 y_13 z_13 st_13 hQ_13
  subst l_13 y_13 z_13
  obtain ⟨rfl, N_13q, K_13, s2, m2, bs2, bp2, bo2, bf2, bt2, k_bs2, k_bp2, k_bo2, k_bf2, k_bt2, ⟨leg_s2, leg_m2, leg_bs2, leg_bp2, leg_bo2, leg_bf2, leg_bt2⟩, ne_bs2_bp2, ne_bs2_bo2, ne_bs2_bf2, ne_bs2_bt2, ne_bp2_bo2, ne_bp2_bf2, ne_bp2_bt2, ne_bo2_bf2, ne_bo2_bt2, ne_bf2_bt2, GE_t2, GF_subjects_t2, GF_predicates_t2, GF_objects_t2, GF_firstGraphs_t2, GF_table_t2, GF_otherGraphs_t2, GF_size_t2, GE_s2, GF_map_s2, GE_m2, GF_size_m2, GF_keySet_m2, GF_head_m2, GF_modCount_m2, GV_bs2, GV_bp2, GV_bo2, GV_bf2, GV_bt2⟩ := hQ_13
  have ne_lf_s2 : lf ≠ s2 := Nat.ne_of_lt (Nat.lt_of_lt_of_le V_lf.lt leg_s2)
  have ne_t1_s2 : t1 ≠ s2 := Nat.ne_of_lt (Nat.lt_of_lt_of_le E_t1.lt leg_s2)
  have ne_s1_s2 : s1 ≠ s2 := Nat.ne_of_lt (Nat.lt_of_lt_of_le E_s1.lt leg_s2)
  have ne_m1_s2 : m1 ≠ s2 := Nat.ne_of_lt (Nat.lt_of_lt_of_le E_m1.lt leg_s2)
  have ne_bs1_s2 : bs1 ≠ s2 := Nat.ne_of_lt (Nat.lt_of_lt_of_le V_bs1.lt leg_s2)
  have ne_bp1_s2 : bp1 ≠ s2 := Nat.ne_of_lt (Nat.lt_of_lt_of_le V_bp1.lt leg_s2)
  have ne_bo1_s2 : bo1 ≠ s2 := Nat.ne_of_lt (Nat.lt_of_lt_of_le V_bo1.lt leg_s2)
  have ne_bf1_s2 : bf1 ≠ s2 := Nat.ne_of_lt (Nat.lt_of_lt_of_le V_bf1.lt leg_s2)
  have ne_t2_s2 : t2 ≠ s2 := Nat.ne_of_lt (Nat.lt_of_lt_of_le E_t2.lt leg_s2)
  have le_n0_s2 := Nat.le_trans Z0 leg_s2
  have ne_lf_m2 : lf ≠ m2 := Nat.ne_of_lt (Nat.lt_of_lt_of_le V_lf.lt leg_m2)
  have ne_t1_m2 : t1 ≠ m2 := Nat.ne_of_lt (Nat.lt_of_lt_of_le E_t1.lt leg_m2)
  have ne_s1_m2 : s1 ≠ m2 := Nat.ne_of_lt (Nat.lt_of_lt_of_le E_s1.lt leg_m2)
  have ne_m1_m2 : m1 ≠ m2 := Nat.ne_of_lt (Nat.lt_of_lt_of_le E_m1.lt leg_m2)
  have ne_bs1_m2 : bs1 ≠ m2 := Nat.ne_of_lt (Nat.lt_of_lt_of_le V_bs1.lt leg_m2)
  have ne_bp1_m2 : bp1 ≠ m2 := Nat.ne_of_lt (Nat.lt_of_lt_of_le V_bp1.lt leg_m2)
  have ne_bo1_m2 : bo1 ≠ m2 := Nat.ne_of_lt (Nat.lt_of_lt_of_le V_bo1.lt leg_m2)
  have ne_bf1_m2 : bf1 ≠ m2 := Nat.ne_of_lt (Nat.lt_of_lt_of_le V_bf1.lt leg_m2)
  have ne_t2_m2 : t2 ≠ m2 := Nat.ne_of_lt (Nat.lt_of_lt_of_le E_t2.lt leg_m2)
  have le_n0_m2 := Nat.le_trans Z0 leg_m2
  have ne_lf_bs2 : lf ≠ bs2 := Nat.ne_of_lt (Nat.lt_of_lt_of_le V_lf.lt leg_bs2)
  have ne_t1_bs2 : t1 ≠ bs2 := Nat.ne_of_lt (Nat.lt_of_lt_of_le E_t1.lt leg_bs2)
  have ne_s1_bs2 : s1 ≠ bs2 := Nat.ne_of_lt (Nat.lt_of_lt_of_le E_s1.lt leg_bs2)
  have ne_m1_bs2 : m1 ≠ bs2 := Nat.ne_of_lt (Nat.lt_of_lt_of_le E_m1.lt leg_bs2)
  have ne_bs1_bs2 : bs1 ≠ bs2 := Nat.ne_of_lt (Nat.lt_of_lt_of_le V_bs1.lt leg_bs2)
  have ne_bp1_bs2 : bp1 ≠ bs2 := Nat.ne_of_lt (Nat.lt_of_lt_of_le V_bp1.lt leg_bs2)
  have ne_bo1_bs2 : bo1 ≠ bs2 := Nat.ne_of_lt (Nat.lt_of_lt_of_le V_bo1.lt leg_bs2)
  have ne_bf1_bs2 : bf1 ≠ bs2 := Nat.ne_of_lt (Nat.lt_of_lt_of_le V_bf1.lt leg_bs2)
  have ne_t2_bs2 : t2 ≠ bs2 := Nat.ne_of_lt (Nat.lt_of_lt_of_le E_t2.lt leg_bs2)
  have le_n0_bs2 := Nat.le_trans Z0 leg_bs2
  have ne_lf_bp2 : lf ≠ bp2 := Nat.ne_of_lt (Nat.lt_of_lt_of_le V_lf.lt leg_bp2)
  have ne_t1_bp2 : t1 ≠ bp2 := Nat.ne_of_lt (Nat.lt_of_lt_of_le E_t1.lt leg_bp2)
  have ne_s1_bp2 : s1 ≠ bp2 := Nat.ne_of_lt (Nat.lt_of_lt_of_le E_s1.lt leg_bp2)
  have ne_m1_bp2 : m1 ≠ bp2 := Nat.ne_of_lt (Nat.lt_of_lt_of_le E_m1.lt leg_bp2)
  have ne_bs1_bp2 : bs1 ≠ bp2 := Nat.ne_of_lt (Nat.lt_of_lt_of_le V_bs1.lt leg_bp2)
  have ne_bp1_bp2 : bp1 ≠ bp2 := Nat.ne_of_lt (Nat.lt_of_lt_of_le V_bp1.lt leg_bp2)
  have ne_bo1_bp2 : bo1 ≠ bp2 := Nat.ne_of_lt (Nat.lt_of_lt_of_le V_bo1.lt leg_bp2)
  have ne_bf1_bp2 : bf1 ≠ bp2 := Nat.ne_of_lt (Nat.lt_of_lt_of_le V_bf1.lt leg_bp2)
  have ne_t2_bp2 : t2 ≠ bp2 := Nat.ne_of_lt (Nat.lt_of_lt_of_le E_t2.lt leg_bp2)
  have le_n0_bp2 := Nat.le_trans Z0 leg_bp2
  have ne_lf_bo2 : lf ≠ bo2 := Nat.ne_of_lt (Nat.lt_of_lt_of_le V_lf.lt leg_bo2)
  have ne_t1_bo2 : t1 ≠ bo2 := Nat.ne_of_lt (Nat.lt_of_lt_of_le E_t1.lt leg_bo2)
  have ne_s1_bo2 : s1 ≠ bo2 := Nat.ne_of_lt (Nat.lt_of_lt_of_le E_s1.lt leg_bo2)
  have ne_m1_bo2 : m1 ≠ bo2 := Nat.ne_of_lt (Nat.lt_of_lt_of_le E_m1.lt leg_bo2)
  have ne_bs1_bo2 : bs1 ≠ bo2 := Nat.ne_of_lt (Nat.lt_of_lt_of_le V_bs1.lt leg_bo2)
  have ne_bp1_bo2 : bp1 ≠ bo2 := Nat.ne_of_lt (Nat.lt_of_lt_of_le V_bp1.lt leg_bo2)
  have ne_bo1_bo2 : bo1 ≠ bo2 := Nat.ne_of_lt (Nat.lt_of_lt_of_le V_bo1.lt leg_bo2)
  have ne_bf1_bo2 : bf1 ≠ bo2 := Nat.ne_of_lt (Nat.lt_of_lt_of_le V_bf1.lt leg_bo2)
  have ne_t2_bo2 : t2 ≠ bo2 := Nat.ne_of_lt (Nat.lt_of_lt_of_le E_t2.lt leg_bo2)
  have le_n0_bo2 := Nat.le_trans Z0 leg_bo2
  have ne_lf_bf2 : lf ≠ bf2 := Nat.ne_of_lt (Nat.lt_of_lt_of_le V_lf.lt leg_bf2)
  have ne_t1_bf2 : t1 ≠ bf2 := Nat.ne_of_lt (Nat.lt_of_lt_of_le E_t1.lt leg_bf2)
  have ne_s1_bf2 : s1 ≠ bf2 := Nat.ne_of_lt (Nat.lt_of_lt_of_le E_s1.lt leg_bf2)
  have ne_m1_bf2 : m1 ≠ bf2 := Nat.ne_of_lt (Nat.lt_of_lt_of_le E_m1.lt leg_bf2)
  have ne_bs1_bf2 : bs1 ≠ bf2 := Nat.ne_of_lt (Nat.lt_of_lt_of_le V_bs1.lt leg_bf2)
  have ne_bp1_bf2 : bp1 ≠ bf2 := Nat.ne_of_lt (Nat.lt_of_lt_of_le V_bp1.lt leg_bf2)
  have ne_bo1_bf2 : bo1 ≠ bf2 := Nat.ne_of_lt (Nat.lt_of_lt_of_le V_bo1.lt leg_bf2)
  have ne_bf1_bf2 : bf1 ≠ bf2 := Nat.ne_of_lt (Nat.lt_of_lt_of_le V_bf1.lt leg_bf2)
  have ne_t2_bf2 : t2 ≠ bf2 := Nat.ne_of_lt (Nat.lt_of_lt_of_le E_t2.lt leg_bf2)
  have le_n0_bf2 := Nat.le_trans Z0 leg_bf2
  have ne_lf_bt2 : lf ≠ bt2 := Nat.ne_of_lt (Nat.lt_of_lt_of_le V_lf.lt leg_bt2)
  have ne_t1_bt2 : t1 ≠ bt2 := Nat.ne_of_lt (Nat.lt_of_lt_of_le E_t1.lt leg_bt2)
  have ne_s1_bt2 : s1 ≠ bt2 := Nat.ne_of_lt (Nat.lt_of_lt_of_le E_s1.lt leg_bt2)
  have ne_m1_bt2 : m1 ≠ bt2 := Nat.ne_of_lt (Nat.lt_of_lt_of_le E_m1.lt leg_bt2)
  have ne_bs1_bt2 : bs1 ≠ bt2 := Nat.ne_of_lt (Nat.lt_of_lt_of_le V_bs1.lt leg_bt2)
  have ne_bp1_bt2 : bp1 ≠ bt2 := Nat.ne_of_lt (Nat.lt_of_lt_of_le V_bp1.lt leg_bt2)
  have ne_bo1_bt2 : bo1 ≠ bt2 := Nat.ne_of_lt (Nat.lt_of_lt_of_le V_bo1.lt leg_bt2)
  have ne_bf1_bt2 : bf1 ≠ bt2 := Nat.ne_of_lt (Nat.lt_of_lt_of_le V_bf1.lt leg_bt2)
  have ne_t2_bt2 : t2 ≠ bt2 := Nat.ne_of_lt (Nat.lt_of_lt_of_le E_t2.lt leg_bt2)
  have le_n0_bt2 := Nat.le_trans Z0 leg_bt2
  have Z0 := Nat.le_trans Z0 K_13.1
  have E_r0 := E_r0.keep K_13
  have E_r1 := E_r1.keep K_13
  have E_r2 := E_r2.keep K_13
  have E_r3 := E_r3.keep K_13
  have V_lf := V_lf.keep K_13 (ninS ne_lf_t2 nin0)
  have E_t1 := E_t1.keep K_13
  have F_subjects_t1 := F_subjects_t1.keep K_13 (ninS ne_t1_t2 nin0)
  have F_predicates_t1 := F_predicates_t1.keep K_13 (ninS ne_t1_t2 nin0)
  have F_objects_t1 := F_objects_t1.keep K_13 (ninS ne_t1_t2 nin0)
  have F_firstGraphs_t1 := F_firstGraphs_t1.keep K_13 (ninS ne_t1_t2 nin0)
  have F_otherGraphs_t1 := F_otherGraphs_t1.keep K_13 (ninS ne_t1_t2 nin0)
  have F_size_t1 := F_size_t1.keep K_13 (ninS ne_t1_t2 nin0)
  have E_s1 := E_s1.keep K_13
  have F_map_s1 := F_map_s1.keep K_13 (ninS ne_s1_t2 nin0)
  have E_m1 := E_m1.keep K_13
  have F_size_m1 := F_size_m1.keep K_13 (ninS ne_m1_t2 nin0)
  have F_keySet_m1 := F_keySet_m1.keep K_13 (ninS ne_m1_t2 nin0)
  have F_head_m1 := F_head_m1.keep K_13 (ninS ne_m1_t2 nin0)
  have F_modCount_m1 := F_modCount_m1.keep K_13 (ninS ne_m1_t2 nin0)
  have V_bs1 := V_bs1.keep K_13 (ninS ne_bs1_t2 nin0)
  have V_bp1 := V_bp1.keep K_13 (ninS ne_bp1_t2 nin0)
  have V_bo1 := V_bo1.keep K_13 (ninS ne_bo1_t2 nin0)
  have V_bf1 := V_bf1.keep K_13 (ninS ne_bf1_t2 nin0)
  have E_t2 := E_t2.keep K_13
  have E_t2 := GE_t2
  have F_subjects_t2 := GF_subjects_t2
  have F_predicates_t2 := GF_predicates_t2
  have F_objects_t2 := GF_objects_t2
  have F_firstGraphs_t2 := GF_firstGraphs_t2
  have F_table_t2 := GF_table_t2
  have F_otherGraphs_t2 := GF_otherGraphs_t2
  have F_size_t2 := GF_size_t2
  have E_s2 := GE_s2
  have F_map_s2 := GF_map_s2
  have E_m2 := GE_m2
  have F_size_m2 := GF_size_m2
  have F_keySet_m2 := GF_keySet_m2
  have F_head_m2 := GF_head_m2
  have F_modCount_m2 := GF_modCount_m2
  have V_bs2 := GV_bs2
  have V_bp2 := GV_bp2
  have V_bo2 := GV_bo2
  have V_bf2 := GV_bf2
  have V_bt2 := GV_bt2
  have N_13 := Fr.app N_11 N_13q
  refine hst (fun _ kt => st_13.trans kt) ?_
  show G (T_13.setTop (mkF mI 109 #[.val (.int ob), .val (.int chs), .val (.int qq), .val (.int o0), .val (.int o1), .val (.int o2), .val (.ref lf), .val (.int tq), .val (.ref t1), .unset, .unset, .unset, .unset] [(.ref t2)]))
  have A_bs2 := V_bs2.arh
  have A_bp2 := V_bp2.arh
  have A_bo2 := V_bo2.arh
  have A_bf2 := V_bf2.arh
  have A_bt2 := V_bt2.arh
  have hr0 := own_sl_rng 0 o0
  have hr1 := own_sl_rng 1 o1
  have hr2 := own_sl_rng 2 o2
  refine o_astore hst X_13.here hx (hb hby at_109) (pc' := 111) rfl (Lt := #[.val (.int ob), .val (.int chs), .val (.int qq), .val (.int o0), .val (.int o1), .val (.int o2), .val (.ref lf), .val (.int tq), .val (.ref t1), .val (.ref t2), .unset, .unset, .unset]) rfl rfl ?_
  refine o_aload hst X_13.here hx (hb hby at_111) (pc' := 113) rfl rfl rfl ?_
  refine o_iconst hst X_13.here hx (hb hby at_113) (pc' := 114) rfl (z := (0 : Int32)) rfl ?_
  refine o_iconst hst X_13.here hx (hb hby at_114) (pc' := 115) rfl (z := (0 : Int32)) rfl ?_
  refine o_iloadN hst X_13.here hx (hb hby at_115) (pc' := 116) rfl rfl ?_
  refine o_iconst hst X_13.here hx (hb hby at_116) (pc' := 117) rfl (z := (0 : Int32)) rfl ?_
  obtain ⟨cq_14, kq_14, q_14a, q_14b, q_14c⟩ := isOf hZ rfl E_t2
  obtain ⟨_, _, ⟨T_14, L_14, k_14, n_14⟩, -, X_14, ⟨Lc_14, hQ_14, l_14, y_14, z_14⟩, st_14⟩ := X_13.virtualBack hx (y := (⟨own_TT, "add", "(IIII)V"⟩ : MethodName)) (z := (⟨own_TT, "add", "(IIII)V"⟩ : MethodName)) hown (mvT hZ (own_w118 hw)) (mvT hZ (own_w119 hw)) (notFace_of_selects (args := #[]) (mvT hZ (own_w121 hw))) (mvT hZ (own_w121 hw)) (mvT hZ (own_w120 hw)) (by decide) (backOf (W := 0) (rmad lL Z a0 hw [] t2 (0 : Int32) o0 s2 (own_sl 0 o0) (1 : Int32) bs2 bp2 bo2 bf2 bt2 k_bs2 k_bp2 k_bo2 k_bf2 k_bt2 [] [] [] [] [] T_13.heap n0 Z0 E_t2 F_subjects_t2 F_predicates_t2 F_objects_t2 F_firstGraphs_t2 F_table_t2 F_otherGraphs_t2 F_size_t2 A_bs2 A_bp2 A_bo2 A_bf2 A_bt2 le_n0_t2 le_n0_bs2 le_n0_bp2 le_n0_bo2 le_n0_bf2 le_n0_bt2 ne_bs2_bp2 ne_bs2_bo2 ne_bs2_bf2 ne_bs2_bt2 ne_bp2_bo2 ne_bp2_bf2 ne_bp2_bt2 ne_bo2_bf2 ne_bo2_bt2 ne_bf2_bt2 (by decide) (by decide) (by decide) (by decide) (by decide) rfl hr0.1 hr0.2 rfl) hZ (own_w122 hw) (own_w31 hw) (by decide) (by decide)) q_14a q_14c (g := (mkF mI 117 #[.val (.int ob), .val (.int chs), .val (.int qq), .val (.int o0), .val (.int o1), .val (.int o2), .val (.ref lf), .val (.int tq), .val (.ref t1), .val (.ref t2), .unset, .unset, .unset] [(.int (0 : Int32)), (.int o0), (.int (0 : Int32)), (.int (0 : Int32)), (.ref t2)])) rfl (by rw [hml]; rfl) (Steps.refl _) (argsL := [(.int (0 : Int32)), (.int (0 : Int32)), (.int o0), (.int (0 : Int32))]) (rest := []) (lenOf pd_21 rfl) rfl (by show 2 * 0 + _ ≤ _; exact Nat.le_of_eq rfl) (hb hby at_117) (fun _ _ => ⟨rfl, rfl, (by decide : 25 + 0 ≤ _), (by decide : 12352 + 0 ≤ _)⟩)
  dsimp only [Pt.U, Pt.locs, Pt.cells, Pt.slots] at X_14 l_14 y_14 z_14 st_14 hQ_14
  subst l_14 y_14 z_14
  obtain ⟨rfl, N_14q, K_14, GE_t2, GF_subjects_t2, GF_predicates_t2, GF_objects_t2, GF_firstGraphs_t2, GF_table_t2, GF_otherGraphs_t2, GF_size_t2, GA_bs2, GA_bp2, GA_bo2, GA_bf2, GA_bt2⟩ := hQ_14
  have ne_s2_bs2 : s2 ≠ bs2 := own_ne_arh E_s2 (own_w46 hw) A_bs2
  have ne_s2_bp2 : s2 ≠ bp2 := own_ne_arh E_s2 (own_w46 hw) A_bp2
  have ne_s2_bo2 : s2 ≠ bo2 := own_ne_arh E_s2 (own_w46 hw) A_bo2
  have ne_s2_bf2 : s2 ≠ bf2 := own_ne_arh E_s2 (own_w46 hw) A_bf2
  have ne_s2_bt2 : s2 ≠ bt2 := own_ne_arh E_s2 (own_w46 hw) A_bt2
  have ne_m2_bs2 : m2 ≠ bs2 := own_ne_arh E_m2 (own_w72 hw) A_bs2
  have ne_m2_bp2 : m2 ≠ bp2 := own_ne_arh E_m2 (own_w72 hw) A_bp2
  have ne_m2_bo2 : m2 ≠ bo2 := own_ne_arh E_m2 (own_w72 hw) A_bo2
  have ne_m2_bf2 : m2 ≠ bf2 := own_ne_arh E_m2 (own_w72 hw) A_bf2
  have ne_m2_bt2 : m2 ≠ bt2 := own_ne_arh E_m2 (own_w72 hw) A_bt2
  have Z0 := Nat.le_trans Z0 K_14.1
  have E_r0 := E_r0.keep K_14
  have E_r1 := E_r1.keep K_14
  have E_r2 := E_r2.keep K_14
  have E_r3 := E_r3.keep K_14
  have V_lf := V_lf.keep K_14 (ninS ne_lf_t2 (ninS ne_lf_bs2 (ninS ne_lf_bp2 (ninS ne_lf_bo2 (ninS ne_lf_bf2 (ninS ne_lf_bt2 nin0))))))
  have E_t1 := E_t1.keep K_14
  have F_subjects_t1 := F_subjects_t1.keep K_14 (ninS ne_t1_t2 (ninS ne_t1_bs2 (ninS ne_t1_bp2 (ninS ne_t1_bo2 (ninS ne_t1_bf2 (ninS ne_t1_bt2 nin0))))))
  have F_predicates_t1 := F_predicates_t1.keep K_14 (ninS ne_t1_t2 (ninS ne_t1_bs2 (ninS ne_t1_bp2 (ninS ne_t1_bo2 (ninS ne_t1_bf2 (ninS ne_t1_bt2 nin0))))))
  have F_objects_t1 := F_objects_t1.keep K_14 (ninS ne_t1_t2 (ninS ne_t1_bs2 (ninS ne_t1_bp2 (ninS ne_t1_bo2 (ninS ne_t1_bf2 (ninS ne_t1_bt2 nin0))))))
  have F_firstGraphs_t1 := F_firstGraphs_t1.keep K_14 (ninS ne_t1_t2 (ninS ne_t1_bs2 (ninS ne_t1_bp2 (ninS ne_t1_bo2 (ninS ne_t1_bf2 (ninS ne_t1_bt2 nin0))))))
  have F_otherGraphs_t1 := F_otherGraphs_t1.keep K_14 (ninS ne_t1_t2 (ninS ne_t1_bs2 (ninS ne_t1_bp2 (ninS ne_t1_bo2 (ninS ne_t1_bf2 (ninS ne_t1_bt2 nin0))))))
  have F_size_t1 := F_size_t1.keep K_14 (ninS ne_t1_t2 (ninS ne_t1_bs2 (ninS ne_t1_bp2 (ninS ne_t1_bo2 (ninS ne_t1_bf2 (ninS ne_t1_bt2 nin0))))))
  have E_s1 := E_s1.keep K_14
  have F_map_s1 := F_map_s1.keep K_14 (ninS ne_s1_t2 (ninS ne_s1_bs2 (ninS ne_s1_bp2 (ninS ne_s1_bo2 (ninS ne_s1_bf2 (ninS ne_s1_bt2 nin0))))))
  have E_m1 := E_m1.keep K_14
  have F_size_m1 := F_size_m1.keep K_14 (ninS ne_m1_t2 (ninS ne_m1_bs2 (ninS ne_m1_bp2 (ninS ne_m1_bo2 (ninS ne_m1_bf2 (ninS ne_m1_bt2 nin0))))))
  have F_keySet_m1 := F_keySet_m1.keep K_14 (ninS ne_m1_t2 (ninS ne_m1_bs2 (ninS ne_m1_bp2 (ninS ne_m1_bo2 (ninS ne_m1_bf2 (ninS ne_m1_bt2 nin0))))))
  have F_head_m1 := F_head_m1.keep K_14 (ninS ne_m1_t2 (ninS ne_m1_bs2 (ninS ne_m1_bp2 (ninS ne_m1_bo2 (ninS ne_m1_bf2 (ninS ne_m1_bt2 nin0))))))
  have F_modCount_m1 := F_modCount_m1.keep K_14 (ninS ne_m1_t2 (ninS ne_m1_bs2 (ninS ne_m1_bp2 (ninS ne_m1_bo2 (ninS ne_m1_bf2 (ninS ne_m1_bt2 nin0))))))
  have V_bs1 := V_bs1.keep K_14 (ninS ne_bs1_t2 (ninS ne_bs1_bs2 (ninS ne_bs1_bp2 (ninS ne_bs1_bo2 (ninS ne_bs1_bf2 (ninS ne_bs1_bt2 nin0))))))
  have V_bp1 := V_bp1.keep K_14 (ninS ne_bp1_t2 (ninS ne_bp1_bs2 (ninS ne_bp1_bp2 (ninS ne_bp1_bo2 (ninS ne_bp1_bf2 (ninS ne_bp1_bt2 nin0))))))
  have V_bo1 := V_bo1.keep K_14 (ninS ne_bo1_t2 (ninS ne_bo1_bs2 (ninS ne_bo1_bp2 (ninS ne_bo1_bo2 (ninS ne_bo1_bf2 (ninS ne_bo1_bt2 nin0))))))
  have V_bf1 := V_bf1.keep K_14 (ninS ne_bf1_t2 (ninS ne_bf1_bs2 (ninS ne_bf1_bp2 (ninS ne_bf1_bo2 (ninS ne_bf1_bf2 (ninS ne_bf1_bt2 nin0))))))
  have E_t2 := E_t2.keep K_14
  have E_s2 := E_s2.keep K_14
  have F_map_s2 := F_map_s2.keep K_14 (ninS (Ne.symm ne_t2_s2) (ninS ne_s2_bs2 (ninS ne_s2_bp2 (ninS ne_s2_bo2 (ninS ne_s2_bf2 (ninS ne_s2_bt2 nin0))))))
  have E_m2 := E_m2.keep K_14
  have F_size_m2 := F_size_m2.keep K_14 (ninS (Ne.symm ne_t2_m2) (ninS ne_m2_bs2 (ninS ne_m2_bp2 (ninS ne_m2_bo2 (ninS ne_m2_bf2 (ninS ne_m2_bt2 nin0))))))
  have F_keySet_m2 := F_keySet_m2.keep K_14 (ninS (Ne.symm ne_t2_m2) (ninS ne_m2_bs2 (ninS ne_m2_bp2 (ninS ne_m2_bo2 (ninS ne_m2_bf2 (ninS ne_m2_bt2 nin0))))))
  have F_head_m2 := F_head_m2.keep K_14 (ninS (Ne.symm ne_t2_m2) (ninS ne_m2_bs2 (ninS ne_m2_bp2 (ninS ne_m2_bo2 (ninS ne_m2_bf2 (ninS ne_m2_bt2 nin0))))))
  have F_modCount_m2 := F_modCount_m2.keep K_14 (ninS (Ne.symm ne_t2_m2) (ninS ne_m2_bs2 (ninS ne_m2_bp2 (ninS ne_m2_bo2 (ninS ne_m2_bf2 (ninS ne_m2_bt2 nin0))))))
  have E_t2 := GE_t2
  have F_subjects_t2 := GF_subjects_t2
  have F_predicates_t2 := GF_predicates_t2
  have F_objects_t2 := GF_objects_t2
  have F_firstGraphs_t2 := GF_firstGraphs_t2
  have F_table_t2 := GF_table_t2
  have F_otherGraphs_t2 := GF_otherGraphs_t2
  have F_size_t2 := GF_size_t2
  have A_bs2 := GA_bs2
  have A_bp2 := GA_bp2
  have A_bo2 := GA_bo2
  have A_bf2 := GA_bf2
  have A_bt2 := GA_bt2
  have N_14 := Fr.app N_13 N_14q
  refine hst (fun _ kt => st_14.trans kt) ?_
  show G (T_14.setTop (mkF mI 120 #[.val (.int ob), .val (.int chs), .val (.int qq), .val (.int o0), .val (.int o1), .val (.int o2), .val (.ref lf), .val (.int tq), .val (.ref t1), .val (.ref t2), .unset, .unset, .unset] []))
  refine o_aload hst X_14.here hx (hb hby at_120) (pc' := 122) rfl rfl rfl ?_
  refine o_iconst hst X_14.here hx (hb hby at_122) (pc' := 123) rfl (z := (1 : Int32)) rfl ?_
  refine o_iconst hst X_14.here hx (hb hby at_123) (pc' := 124) rfl (z := (0 : Int32)) rfl ?_
  refine o_iload hst X_14.here hx (hb hby at_124) (pc' := 126) rfl rfl ?_
  refine o_iconst hst X_14.here hx (hb hby at_126) (pc' := 127) rfl (z := (0 : Int32)) rfl ?_
  obtain ⟨cq_15, kq_15, q_15a, q_15b, q_15c⟩ := isOf hZ rfl E_t2
  obtain ⟨_, _, ⟨T_15, L_15, k_15, n_15⟩, -, X_15, ⟨Lc_15, hQ_15, l_15, y_15, z_15⟩, st_15⟩ := X_14.virtualBack hx (y := (⟨own_TT, "add", "(IIII)V"⟩ : MethodName)) (z := (⟨own_TT, "add", "(IIII)V"⟩ : MethodName)) hown (mvT hZ (own_w118 hw)) (mvT hZ (own_w119 hw)) (notFace_of_selects (args := #[]) (mvT hZ (own_w121 hw))) (mvT hZ (own_w121 hw)) (mvT hZ (own_w120 hw)) (by decide) (backOf (W := 0) (rmad lL Z a0 hw [] t2 (1 : Int32) o1 s2 (own_sl 1 o1) (2 : Int32) bs2 bp2 bo2 bf2 bt2 k_bs2 k_bp2 k_bo2 k_bf2 k_bt2 (((0 : Int32), (.int (0 : Int32))) :: []) (((0 : Int32), (.int (0 : Int32))) :: []) (((0 : Int32), (.int o0)) :: []) (((0 : Int32), (.int (0 : Int32))) :: []) (((own_sl 0 o0), (.int (1 : Int32))) :: []) T_14.heap n0 Z0 E_t2 F_subjects_t2 F_predicates_t2 F_objects_t2 F_firstGraphs_t2 F_table_t2 F_otherGraphs_t2 F_size_t2 A_bs2 A_bp2 A_bo2 A_bf2 A_bt2 le_n0_t2 le_n0_bs2 le_n0_bp2 le_n0_bo2 le_n0_bf2 le_n0_bt2 ne_bs2_bp2 ne_bs2_bo2 ne_bs2_bf2 ne_bs2_bt2 ne_bp2_bo2 ne_bp2_bf2 ne_bp2_bt2 ne_bo2_bf2 ne_bo2_bt2 ne_bf2_bt2 (by decide) (by decide) (by decide) (by decide) (by decide) rfl hr1.1 hr1.2 (getH_miss hr1.1 (own_sl10 ho0 ho1) rfl)) hZ (own_w122 hw) (own_w31 hw) (by decide) (by decide)) q_15a q_15c (g := (mkF mI 127 #[.val (.int ob), .val (.int chs), .val (.int qq), .val (.int o0), .val (.int o1), .val (.int o2), .val (.ref lf), .val (.int tq), .val (.ref t1), .val (.ref t2), .unset, .unset, .unset] [(.int (0 : Int32)), (.int o1), (.int (0 : Int32)), (.int (1 : Int32)), (.ref t2)])) rfl (by rw [hml]; rfl) (Steps.refl _) (argsL := [(.int (1 : Int32)), (.int (0 : Int32)), (.int o1), (.int (0 : Int32))]) (rest := []) (lenOf pd_21 rfl) rfl (by show 2 * 0 + _ ≤ _; exact Nat.le_of_eq rfl) (hb hby at_127) (fun _ _ => ⟨rfl, rfl, (by decide : 25 + 0 ≤ _), (by decide : 12352 + 0 ≤ _)⟩)
  dsimp only [Pt.U, Pt.locs, Pt.cells, Pt.slots] at X_15 l_15 y_15 z_15 st_15 hQ_15
  subst l_15 y_15 z_15
  obtain ⟨rfl, N_15q, K_15, GE_t2, GF_subjects_t2, GF_predicates_t2, GF_objects_t2, GF_firstGraphs_t2, GF_table_t2, GF_otherGraphs_t2, GF_size_t2, GA_bs2, GA_bp2, GA_bo2, GA_bf2, GA_bt2⟩ := hQ_15
  have Z0 := Nat.le_trans Z0 K_15.1
  have E_r0 := E_r0.keep K_15
  have E_r1 := E_r1.keep K_15
  have E_r2 := E_r2.keep K_15
  have E_r3 := E_r3.keep K_15
  have V_lf := V_lf.keep K_15 (ninS ne_lf_t2 (ninS ne_lf_bs2 (ninS ne_lf_bp2 (ninS ne_lf_bo2 (ninS ne_lf_bf2 (ninS ne_lf_bt2 nin0))))))
  have E_t1 := E_t1.keep K_15
  have F_subjects_t1 := F_subjects_t1.keep K_15 (ninS ne_t1_t2 (ninS ne_t1_bs2 (ninS ne_t1_bp2 (ninS ne_t1_bo2 (ninS ne_t1_bf2 (ninS ne_t1_bt2 nin0))))))
  have F_predicates_t1 := F_predicates_t1.keep K_15 (ninS ne_t1_t2 (ninS ne_t1_bs2 (ninS ne_t1_bp2 (ninS ne_t1_bo2 (ninS ne_t1_bf2 (ninS ne_t1_bt2 nin0))))))
  have F_objects_t1 := F_objects_t1.keep K_15 (ninS ne_t1_t2 (ninS ne_t1_bs2 (ninS ne_t1_bp2 (ninS ne_t1_bo2 (ninS ne_t1_bf2 (ninS ne_t1_bt2 nin0))))))
  have F_firstGraphs_t1 := F_firstGraphs_t1.keep K_15 (ninS ne_t1_t2 (ninS ne_t1_bs2 (ninS ne_t1_bp2 (ninS ne_t1_bo2 (ninS ne_t1_bf2 (ninS ne_t1_bt2 nin0))))))
  have F_otherGraphs_t1 := F_otherGraphs_t1.keep K_15 (ninS ne_t1_t2 (ninS ne_t1_bs2 (ninS ne_t1_bp2 (ninS ne_t1_bo2 (ninS ne_t1_bf2 (ninS ne_t1_bt2 nin0))))))
  have F_size_t1 := F_size_t1.keep K_15 (ninS ne_t1_t2 (ninS ne_t1_bs2 (ninS ne_t1_bp2 (ninS ne_t1_bo2 (ninS ne_t1_bf2 (ninS ne_t1_bt2 nin0))))))
  have E_s1 := E_s1.keep K_15
  have F_map_s1 := F_map_s1.keep K_15 (ninS ne_s1_t2 (ninS ne_s1_bs2 (ninS ne_s1_bp2 (ninS ne_s1_bo2 (ninS ne_s1_bf2 (ninS ne_s1_bt2 nin0))))))
  have E_m1 := E_m1.keep K_15
  have F_size_m1 := F_size_m1.keep K_15 (ninS ne_m1_t2 (ninS ne_m1_bs2 (ninS ne_m1_bp2 (ninS ne_m1_bo2 (ninS ne_m1_bf2 (ninS ne_m1_bt2 nin0))))))
  have F_keySet_m1 := F_keySet_m1.keep K_15 (ninS ne_m1_t2 (ninS ne_m1_bs2 (ninS ne_m1_bp2 (ninS ne_m1_bo2 (ninS ne_m1_bf2 (ninS ne_m1_bt2 nin0))))))
  have F_head_m1 := F_head_m1.keep K_15 (ninS ne_m1_t2 (ninS ne_m1_bs2 (ninS ne_m1_bp2 (ninS ne_m1_bo2 (ninS ne_m1_bf2 (ninS ne_m1_bt2 nin0))))))
  have F_modCount_m1 := F_modCount_m1.keep K_15 (ninS ne_m1_t2 (ninS ne_m1_bs2 (ninS ne_m1_bp2 (ninS ne_m1_bo2 (ninS ne_m1_bf2 (ninS ne_m1_bt2 nin0))))))
  have V_bs1 := V_bs1.keep K_15 (ninS ne_bs1_t2 (ninS ne_bs1_bs2 (ninS ne_bs1_bp2 (ninS ne_bs1_bo2 (ninS ne_bs1_bf2 (ninS ne_bs1_bt2 nin0))))))
  have V_bp1 := V_bp1.keep K_15 (ninS ne_bp1_t2 (ninS ne_bp1_bs2 (ninS ne_bp1_bp2 (ninS ne_bp1_bo2 (ninS ne_bp1_bf2 (ninS ne_bp1_bt2 nin0))))))
  have V_bo1 := V_bo1.keep K_15 (ninS ne_bo1_t2 (ninS ne_bo1_bs2 (ninS ne_bo1_bp2 (ninS ne_bo1_bo2 (ninS ne_bo1_bf2 (ninS ne_bo1_bt2 nin0))))))
  have V_bf1 := V_bf1.keep K_15 (ninS ne_bf1_t2 (ninS ne_bf1_bs2 (ninS ne_bf1_bp2 (ninS ne_bf1_bo2 (ninS ne_bf1_bf2 (ninS ne_bf1_bt2 nin0))))))
  have E_s2 := E_s2.keep K_15
  have F_map_s2 := F_map_s2.keep K_15 (ninS (Ne.symm ne_t2_s2) (ninS ne_s2_bs2 (ninS ne_s2_bp2 (ninS ne_s2_bo2 (ninS ne_s2_bf2 (ninS ne_s2_bt2 nin0))))))
  have E_m2 := E_m2.keep K_15
  have F_size_m2 := F_size_m2.keep K_15 (ninS (Ne.symm ne_t2_m2) (ninS ne_m2_bs2 (ninS ne_m2_bp2 (ninS ne_m2_bo2 (ninS ne_m2_bf2 (ninS ne_m2_bt2 nin0))))))
  have F_keySet_m2 := F_keySet_m2.keep K_15 (ninS (Ne.symm ne_t2_m2) (ninS ne_m2_bs2 (ninS ne_m2_bp2 (ninS ne_m2_bo2 (ninS ne_m2_bf2 (ninS ne_m2_bt2 nin0))))))
  have F_head_m2 := F_head_m2.keep K_15 (ninS (Ne.symm ne_t2_m2) (ninS ne_m2_bs2 (ninS ne_m2_bp2 (ninS ne_m2_bo2 (ninS ne_m2_bf2 (ninS ne_m2_bt2 nin0))))))
  have F_modCount_m2 := F_modCount_m2.keep K_15 (ninS (Ne.symm ne_t2_m2) (ninS ne_m2_bs2 (ninS ne_m2_bp2 (ninS ne_m2_bo2 (ninS ne_m2_bf2 (ninS ne_m2_bt2 nin0))))))
  have E_t2 := E_t2.keep K_15
  have E_t2 := GE_t2
  have F_subjects_t2 := GF_subjects_t2
  have F_predicates_t2 := GF_predicates_t2
  have F_objects_t2 := GF_objects_t2
  have F_firstGraphs_t2 := GF_firstGraphs_t2
  have F_table_t2 := GF_table_t2
  have F_otherGraphs_t2 := GF_otherGraphs_t2
  have F_size_t2 := GF_size_t2
  have A_bs2 := GA_bs2
  have A_bp2 := GA_bp2
  have A_bo2 := GA_bo2
  have A_bf2 := GA_bf2
  have A_bt2 := GA_bt2
  have N_15 := Fr.app N_14 N_15q
  refine hst (fun _ kt => st_15.trans kt) ?_
  show G (T_15.setTop (mkF mI 130 #[.val (.int ob), .val (.int chs), .val (.int qq), .val (.int o0), .val (.int o1), .val (.int o2), .val (.ref lf), .val (.int tq), .val (.ref t1), .val (.ref t2), .unset, .unset, .unset] []))
  refine o_aload hst X_15.here hx (hb hby at_130) (pc' := 132) rfl rfl rfl ?_
  refine o_iconst hst X_15.here hx (hb hby at_132) (pc' := 133) rfl (z := (2 : Int32)) rfl ?_
  refine o_iconst hst X_15.here hx (hb hby at_133) (pc' := 134) rfl (z := (0 : Int32)) rfl ?_
  refine o_iload hst X_15.here hx (hb hby at_134) (pc' := 136) rfl rfl ?_
  refine o_iconst hst X_15.here hx (hb hby at_136) (pc' := 137) rfl (z := (0 : Int32)) rfl ?_
  obtain ⟨cq_16, kq_16, q_16a, q_16b, q_16c⟩ := isOf hZ rfl E_t2
  obtain ⟨_, _, ⟨T_16, L_16, k_16, n_16⟩, -, X_16, ⟨Lc_16, hQ_16, l_16, y_16, z_16⟩, st_16⟩ := X_15.virtualBack hx (y := (⟨own_TT, "add", "(IIII)V"⟩ : MethodName)) (z := (⟨own_TT, "add", "(IIII)V"⟩ : MethodName)) hown (mvT hZ (own_w118 hw)) (mvT hZ (own_w119 hw)) (notFace_of_selects (args := #[]) (mvT hZ (own_w121 hw))) (mvT hZ (own_w121 hw)) (mvT hZ (own_w120 hw)) (by decide) (backOf (W := 0) (rmad lL Z a0 hw [] t2 (2 : Int32) o2 s2 (own_sl 2 o2) (3 : Int32) bs2 bp2 bo2 bf2 bt2 k_bs2 k_bp2 k_bo2 k_bf2 k_bt2 (((1 : Int32), (.int (1 : Int32))) :: (((0 : Int32), (.int (0 : Int32))) :: [])) (((1 : Int32), (.int (0 : Int32))) :: (((0 : Int32), (.int (0 : Int32))) :: [])) (((1 : Int32), (.int o1)) :: (((0 : Int32), (.int o0)) :: [])) (((1 : Int32), (.int (0 : Int32))) :: (((0 : Int32), (.int (0 : Int32))) :: [])) (((own_sl 1 o1), (.int (2 : Int32))) :: (((own_sl 0 o0), (.int (1 : Int32))) :: [])) T_15.heap n0 Z0 E_t2 F_subjects_t2 F_predicates_t2 F_objects_t2 F_firstGraphs_t2 F_table_t2 F_otherGraphs_t2 F_size_t2 A_bs2 A_bp2 A_bo2 A_bf2 A_bt2 le_n0_t2 le_n0_bs2 le_n0_bp2 le_n0_bo2 le_n0_bf2 le_n0_bt2 ne_bs2_bp2 ne_bs2_bo2 ne_bs2_bf2 ne_bs2_bt2 ne_bp2_bo2 ne_bp2_bf2 ne_bp2_bt2 ne_bo2_bf2 ne_bo2_bt2 ne_bf2_bt2 (by decide) (by decide) (by decide) (by decide) (by decide) rfl hr2.1 hr2.2 (getH_miss hr2.1 (own_sl21 ho1 ho2) (getH_miss hr2.1 (own_sl20 ho0 ho2) rfl))) hZ (own_w122 hw) (own_w31 hw) (by decide) (by decide)) q_16a q_16c (g := (mkF mI 137 #[.val (.int ob), .val (.int chs), .val (.int qq), .val (.int o0), .val (.int o1), .val (.int o2), .val (.ref lf), .val (.int tq), .val (.ref t1), .val (.ref t2), .unset, .unset, .unset] [(.int (0 : Int32)), (.int o2), (.int (0 : Int32)), (.int (2 : Int32)), (.ref t2)])) rfl (by rw [hml]; rfl) (Steps.refl _) (argsL := [(.int (2 : Int32)), (.int (0 : Int32)), (.int o2), (.int (0 : Int32))]) (rest := []) (lenOf pd_21 rfl) rfl (by show 2 * 0 + _ ≤ _; exact Nat.le_of_eq rfl) (hb hby at_137) (fun _ _ => ⟨rfl, rfl, (by decide : 25 + 0 ≤ _), (by decide : 12352 + 0 ≤ _)⟩)
  dsimp only [Pt.U, Pt.locs, Pt.cells, Pt.slots] at X_16 l_16 y_16 z_16 st_16 hQ_16
  subst l_16 y_16 z_16
  obtain ⟨rfl, N_16q, K_16, GE_t2, GF_subjects_t2, GF_predicates_t2, GF_objects_t2, GF_firstGraphs_t2, GF_table_t2, GF_otherGraphs_t2, GF_size_t2, GA_bs2, GA_bp2, GA_bo2, GA_bf2, GA_bt2⟩ := hQ_16
  have Z0 := Nat.le_trans Z0 K_16.1
  have E_r0 := E_r0.keep K_16
  have E_r1 := E_r1.keep K_16
  have E_r2 := E_r2.keep K_16
  have E_r3 := E_r3.keep K_16
  have V_lf := V_lf.keep K_16 (ninS ne_lf_t2 (ninS ne_lf_bs2 (ninS ne_lf_bp2 (ninS ne_lf_bo2 (ninS ne_lf_bf2 (ninS ne_lf_bt2 nin0))))))
  have E_t1 := E_t1.keep K_16
  have F_subjects_t1 := F_subjects_t1.keep K_16 (ninS ne_t1_t2 (ninS ne_t1_bs2 (ninS ne_t1_bp2 (ninS ne_t1_bo2 (ninS ne_t1_bf2 (ninS ne_t1_bt2 nin0))))))
  have F_predicates_t1 := F_predicates_t1.keep K_16 (ninS ne_t1_t2 (ninS ne_t1_bs2 (ninS ne_t1_bp2 (ninS ne_t1_bo2 (ninS ne_t1_bf2 (ninS ne_t1_bt2 nin0))))))
  have F_objects_t1 := F_objects_t1.keep K_16 (ninS ne_t1_t2 (ninS ne_t1_bs2 (ninS ne_t1_bp2 (ninS ne_t1_bo2 (ninS ne_t1_bf2 (ninS ne_t1_bt2 nin0))))))
  have F_firstGraphs_t1 := F_firstGraphs_t1.keep K_16 (ninS ne_t1_t2 (ninS ne_t1_bs2 (ninS ne_t1_bp2 (ninS ne_t1_bo2 (ninS ne_t1_bf2 (ninS ne_t1_bt2 nin0))))))
  have F_otherGraphs_t1 := F_otherGraphs_t1.keep K_16 (ninS ne_t1_t2 (ninS ne_t1_bs2 (ninS ne_t1_bp2 (ninS ne_t1_bo2 (ninS ne_t1_bf2 (ninS ne_t1_bt2 nin0))))))
  have F_size_t1 := F_size_t1.keep K_16 (ninS ne_t1_t2 (ninS ne_t1_bs2 (ninS ne_t1_bp2 (ninS ne_t1_bo2 (ninS ne_t1_bf2 (ninS ne_t1_bt2 nin0))))))
  have E_s1 := E_s1.keep K_16
  have F_map_s1 := F_map_s1.keep K_16 (ninS ne_s1_t2 (ninS ne_s1_bs2 (ninS ne_s1_bp2 (ninS ne_s1_bo2 (ninS ne_s1_bf2 (ninS ne_s1_bt2 nin0))))))
  have E_m1 := E_m1.keep K_16
  have F_size_m1 := F_size_m1.keep K_16 (ninS ne_m1_t2 (ninS ne_m1_bs2 (ninS ne_m1_bp2 (ninS ne_m1_bo2 (ninS ne_m1_bf2 (ninS ne_m1_bt2 nin0))))))
  have F_keySet_m1 := F_keySet_m1.keep K_16 (ninS ne_m1_t2 (ninS ne_m1_bs2 (ninS ne_m1_bp2 (ninS ne_m1_bo2 (ninS ne_m1_bf2 (ninS ne_m1_bt2 nin0))))))
  have F_head_m1 := F_head_m1.keep K_16 (ninS ne_m1_t2 (ninS ne_m1_bs2 (ninS ne_m1_bp2 (ninS ne_m1_bo2 (ninS ne_m1_bf2 (ninS ne_m1_bt2 nin0))))))
  have F_modCount_m1 := F_modCount_m1.keep K_16 (ninS ne_m1_t2 (ninS ne_m1_bs2 (ninS ne_m1_bp2 (ninS ne_m1_bo2 (ninS ne_m1_bf2 (ninS ne_m1_bt2 nin0))))))
  have V_bs1 := V_bs1.keep K_16 (ninS ne_bs1_t2 (ninS ne_bs1_bs2 (ninS ne_bs1_bp2 (ninS ne_bs1_bo2 (ninS ne_bs1_bf2 (ninS ne_bs1_bt2 nin0))))))
  have V_bp1 := V_bp1.keep K_16 (ninS ne_bp1_t2 (ninS ne_bp1_bs2 (ninS ne_bp1_bp2 (ninS ne_bp1_bo2 (ninS ne_bp1_bf2 (ninS ne_bp1_bt2 nin0))))))
  have V_bo1 := V_bo1.keep K_16 (ninS ne_bo1_t2 (ninS ne_bo1_bs2 (ninS ne_bo1_bp2 (ninS ne_bo1_bo2 (ninS ne_bo1_bf2 (ninS ne_bo1_bt2 nin0))))))
  have V_bf1 := V_bf1.keep K_16 (ninS ne_bf1_t2 (ninS ne_bf1_bs2 (ninS ne_bf1_bp2 (ninS ne_bf1_bo2 (ninS ne_bf1_bf2 (ninS ne_bf1_bt2 nin0))))))
  have E_s2 := E_s2.keep K_16
  have F_map_s2 := F_map_s2.keep K_16 (ninS (Ne.symm ne_t2_s2) (ninS ne_s2_bs2 (ninS ne_s2_bp2 (ninS ne_s2_bo2 (ninS ne_s2_bf2 (ninS ne_s2_bt2 nin0))))))
  have E_m2 := E_m2.keep K_16
  have F_size_m2 := F_size_m2.keep K_16 (ninS (Ne.symm ne_t2_m2) (ninS ne_m2_bs2 (ninS ne_m2_bp2 (ninS ne_m2_bo2 (ninS ne_m2_bf2 (ninS ne_m2_bt2 nin0))))))
  have F_keySet_m2 := F_keySet_m2.keep K_16 (ninS (Ne.symm ne_t2_m2) (ninS ne_m2_bs2 (ninS ne_m2_bp2 (ninS ne_m2_bo2 (ninS ne_m2_bf2 (ninS ne_m2_bt2 nin0))))))
  have F_head_m2 := F_head_m2.keep K_16 (ninS (Ne.symm ne_t2_m2) (ninS ne_m2_bs2 (ninS ne_m2_bp2 (ninS ne_m2_bo2 (ninS ne_m2_bf2 (ninS ne_m2_bt2 nin0))))))
  have F_modCount_m2 := F_modCount_m2.keep K_16 (ninS (Ne.symm ne_t2_m2) (ninS ne_m2_bs2 (ninS ne_m2_bp2 (ninS ne_m2_bo2 (ninS ne_m2_bf2 (ninS ne_m2_bt2 nin0))))))
  have E_t2 := E_t2.keep K_16
  have E_t2 := GE_t2
  have F_subjects_t2 := GF_subjects_t2
  have F_predicates_t2 := GF_predicates_t2
  have F_objects_t2 := GF_objects_t2
  have F_firstGraphs_t2 := GF_firstGraphs_t2
  have F_table_t2 := GF_table_t2
  have F_otherGraphs_t2 := GF_otherGraphs_t2
  have F_size_t2 := GF_size_t2
  have A_bs2 := GA_bs2
  have A_bp2 := GA_bp2
  have A_bo2 := GA_bo2
  have A_bf2 := GA_bf2
  have A_bt2 := GA_bt2
  have N_16 := Fr.app N_15 N_16q
  refine hst (fun _ kt => st_16.trans kt) ?_
  show G (T_16.setTop (mkF mI 140 #[.val (.int ob), .val (.int chs), .val (.int qq), .val (.int o0), .val (.int o1), .val (.int o2), .val (.ref lf), .val (.int tq), .val (.ref t1), .val (.ref t2), .unset, .unset, .unset] []))
  have V_bs2 := own_arv3 A_bs2
  have V_bp2 := own_arv3 A_bp2
  have V_bo2 := own_arv3 A_bo2
  have V_bf2 := own_arv3 A_bf2
  obtain ⟨T_17, h_17, X_17, e_17, E_17, A_17, D_17, -, st_17⟩ := newO X_16 hx hZ hown (own_w131 hw) (own_w132 hw) (own_w133 hw) rfl (g := (mkF mI 140 #[.val (.int ob), .val (.int chs), .val (.int qq), .val (.int o0), .val (.int o1), .val (.int o2), .val (.ref lf), .val (.int tq), .val (.ref t1), .val (.ref t2), .unset, .unset, .unset] [])) rfl (hb hby at_140) (by decide) (by decide)
  obtain ⟨g, g_g⟩ : ∃ z, z = T_16.heap.size := ⟨_, rfl⟩
  rw [← g_g] at A_17 D_17 st_17
  have ne_lf_g : lf ≠ g := Nat.ne_of_lt (Nat.lt_of_lt_of_le V_lf.lt (Nat.le_of_eq g_g.symm))
  have ne_t1_g : t1 ≠ g := Nat.ne_of_lt (Nat.lt_of_lt_of_le E_t1.lt (Nat.le_of_eq g_g.symm))
  have ne_s1_g : s1 ≠ g := Nat.ne_of_lt (Nat.lt_of_lt_of_le E_s1.lt (Nat.le_of_eq g_g.symm))
  have ne_m1_g : m1 ≠ g := Nat.ne_of_lt (Nat.lt_of_lt_of_le E_m1.lt (Nat.le_of_eq g_g.symm))
  have ne_bs1_g : bs1 ≠ g := Nat.ne_of_lt (Nat.lt_of_lt_of_le V_bs1.lt (Nat.le_of_eq g_g.symm))
  have ne_bp1_g : bp1 ≠ g := Nat.ne_of_lt (Nat.lt_of_lt_of_le V_bp1.lt (Nat.le_of_eq g_g.symm))
  have ne_bo1_g : bo1 ≠ g := Nat.ne_of_lt (Nat.lt_of_lt_of_le V_bo1.lt (Nat.le_of_eq g_g.symm))
  have ne_bf1_g : bf1 ≠ g := Nat.ne_of_lt (Nat.lt_of_lt_of_le V_bf1.lt (Nat.le_of_eq g_g.symm))
  have ne_t2_g : t2 ≠ g := Nat.ne_of_lt (Nat.lt_of_lt_of_le E_t2.lt (Nat.le_of_eq g_g.symm))
  have ne_s2_g : s2 ≠ g := Nat.ne_of_lt (Nat.lt_of_lt_of_le E_s2.lt (Nat.le_of_eq g_g.symm))
  have ne_m2_g : m2 ≠ g := Nat.ne_of_lt (Nat.lt_of_lt_of_le E_m2.lt (Nat.le_of_eq g_g.symm))
  have ne_bs2_g : bs2 ≠ g := Nat.ne_of_lt (Nat.lt_of_lt_of_le V_bs2.lt (Nat.le_of_eq g_g.symm))
  have ne_bp2_g : bp2 ≠ g := Nat.ne_of_lt (Nat.lt_of_lt_of_le V_bp2.lt (Nat.le_of_eq g_g.symm))
  have ne_bo2_g : bo2 ≠ g := Nat.ne_of_lt (Nat.lt_of_lt_of_le V_bo2.lt (Nat.le_of_eq g_g.symm))
  have ne_bf2_g : bf2 ≠ g := Nat.ne_of_lt (Nat.lt_of_lt_of_le V_bf2.lt (Nat.le_of_eq g_g.symm))
  have le_n0_g : n0 ≤ g := Nat.le_trans Z0 (Nat.le_of_eq g_g.symm)
  have Z0 := Nat.le_trans Z0 E_17.1
  have E_r0 := E_r0.ext E_17
  have E_r1 := E_r1.ext E_17
  have E_r2 := E_r2.ext E_17
  have E_r3 := E_r3.ext E_17
  have V_lf := V_lf.ext E_17
  have E_t1 := E_t1.ext E_17
  have F_subjects_t1 := F_subjects_t1.ext E_17
  have F_predicates_t1 := F_predicates_t1.ext E_17
  have F_objects_t1 := F_objects_t1.ext E_17
  have F_firstGraphs_t1 := F_firstGraphs_t1.ext E_17
  have F_otherGraphs_t1 := F_otherGraphs_t1.ext E_17
  have F_size_t1 := F_size_t1.ext E_17
  have E_s1 := E_s1.ext E_17
  have F_map_s1 := F_map_s1.ext E_17
  have E_m1 := E_m1.ext E_17
  have F_size_m1 := F_size_m1.ext E_17
  have F_keySet_m1 := F_keySet_m1.ext E_17
  have F_head_m1 := F_head_m1.ext E_17
  have F_modCount_m1 := F_modCount_m1.ext E_17
  have V_bs1 := V_bs1.ext E_17
  have V_bp1 := V_bp1.ext E_17
  have V_bo1 := V_bo1.ext E_17
  have V_bf1 := V_bf1.ext E_17
  have E_s2 := E_s2.ext E_17
  have F_map_s2 := F_map_s2.ext E_17
  have E_m2 := E_m2.ext E_17
  have F_size_m2 := F_size_m2.ext E_17
  have F_keySet_m2 := F_keySet_m2.ext E_17
  have F_head_m2 := F_head_m2.ext E_17
  have F_modCount_m2 := F_modCount_m2.ext E_17
  have E_t2 := E_t2.ext E_17
  have F_subjects_t2 := F_subjects_t2.ext E_17
  have F_predicates_t2 := F_predicates_t2.ext E_17
  have F_objects_t2 := F_objects_t2.ext E_17
  have F_firstGraphs_t2 := F_firstGraphs_t2.ext E_17
  have F_otherGraphs_t2 := F_otherGraphs_t2.ext E_17
  have F_size_t2 := F_size_t2.ext E_17
  have V_bs2 := V_bs2.ext E_17
  have V_bp2 := V_bp2.ext E_17
  have V_bo2 := V_bo2.ext E_17
  have V_bf2 := V_bf2.ext E_17
  have E_g : Exa Z h_17 g own_RG := A_17
  have F_iris_g : Fld Z h_17 g own_RG "iris" "[Ljava/lang/String;" .null := D_17 (Or.inr (own_w157 hw)) (ty := (.array (.object "java/lang/String"))) (by decide)
  have F_predicateIris_g : Fld Z h_17 g own_RG "predicateIris" "[Ljava/lang/String;" .null := D_17 (Or.inr (own_w159 hw)) (ty := (.array (.object "java/lang/String"))) (by decide)
  have F_graphLabels_g : Fld Z h_17 g own_RG "graphLabels" "[Ljava/lang/String;" .null := D_17 (Or.inr (own_w161 hw)) (ty := (.array (.object "java/lang/String"))) (by decide)
  have F_linkSources_g : Fld Z h_17 g own_RG "linkSources" "[I" .null := D_17 (Or.inr (own_w180 hw)) (ty := (.array .int)) (by decide)
  have F_linkPredicates_g : Fld Z h_17 g own_RG "linkPredicates" "[I" .null := D_17 (Or.inr (own_w187 hw)) (ty := (.array .int)) (by decide)
  have F_linkTargets_g : Fld Z h_17 g own_RG "linkTargets" "[I" .null := D_17 (Or.inr (own_w194 hw)) (ty := (.array .int)) (by decide)
  have F_linkMemberships_g : Fld Z h_17 g own_RG "linkMemberships" "Lcom/example/weser/weser/core/Memberships;" .null := D_17 (Or.inr (own_w314 hw)) (ty := (.object own_MB)) (by decide)
  have F_literalSubjects_g : Fld Z h_17 g own_RG "literalSubjects" "[I" .null := D_17 (Or.inr (own_w316 hw)) (ty := (.array .int)) (by decide)
  have F_literalPredicates_g : Fld Z h_17 g own_RG "literalPredicates" "[I" .null := D_17 (Or.inr (own_w318 hw)) (ty := (.array .int)) (by decide)
  have F_literalMemberships_g : Fld Z h_17 g own_RG "literalMemberships" "Lcom/example/weser/weser/core/Memberships;" .null := D_17 (Or.inr (own_w320 hw)) (ty := (.object own_MB)) (by decide)
  have F_literalObjects_g : Fld Z h_17 g own_RG "literalObjects" "[I" .null := D_17 (Or.inr (own_w322 hw)) (ty := (.array .int)) (by decide)
  have F_lexicalForms_g : Fld Z h_17 g own_RG "lexicalForms" "[Ljava/lang/String;" .null := D_17 (Or.inr (own_w324 hw)) (ty := (.array (.object "java/lang/String"))) (by decide)
  have F_prefixes_g : Fld Z h_17 g own_RG "prefixes" "Lcom/example/weser/weser/core/Prefixes;" .null := D_17 (Or.inr (own_w326 hw)) (ty := (.object own_PX)) (by decide)
  refine hst st_17 ?_
  show G (T_17.setTop (mkF mI 143 #[.val (.int ob), .val (.int chs), .val (.int qq), .val (.int o0), .val (.int o1), .val (.int o2), .val (.ref lf), .val (.int tq), .val (.ref t1), .val (.ref t2), .unset, .unset, .unset] [(.ref g)]))
  refine o_dup hst X_17.here hx (hb hby at_143) (pc' := 144) rfl rfl ?_
  refine o_iconst hst X_17.here hx (hb hby at_144) (pc' := 145) rfl (z := (3 : Int32)) rfl ?_
  obtain ⟨T_18, h_18, k_ir, X_18, e_18, E_18, A_18, O_ir, st_18⟩ := newR X_17 hx hZ hown (own_w0 hw) (own_w1 hw) e_17 (g := (mkF mI 145 #[.val (.int ob), .val (.int chs), .val (.int qq), .val (.int o0), .val (.int o1), .val (.int o2), .val (.ref lf), .val (.int tq), .val (.ref t1), .val (.ref t2), .unset, .unset, .unset] [(.int (3 : Int32)), (.ref g), (.ref g)])) rfl (hb hby at_145) rfl (by decide) (cap := 3) (by decide) (by decide) (by decide) (by decide)
  obtain ⟨ir, g_ir⟩ : ∃ z, z = h_17.size := ⟨_, rfl⟩
  rw [← g_ir] at A_18 st_18
  have ne_lf_ir : lf ≠ ir := Nat.ne_of_lt (Nat.lt_of_lt_of_le V_lf.lt (Nat.le_of_eq g_ir.symm))
  have ne_t1_ir : t1 ≠ ir := Nat.ne_of_lt (Nat.lt_of_lt_of_le E_t1.lt (Nat.le_of_eq g_ir.symm))
  have ne_s1_ir : s1 ≠ ir := Nat.ne_of_lt (Nat.lt_of_lt_of_le E_s1.lt (Nat.le_of_eq g_ir.symm))
  have ne_m1_ir : m1 ≠ ir := Nat.ne_of_lt (Nat.lt_of_lt_of_le E_m1.lt (Nat.le_of_eq g_ir.symm))
  have ne_bs1_ir : bs1 ≠ ir := Nat.ne_of_lt (Nat.lt_of_lt_of_le V_bs1.lt (Nat.le_of_eq g_ir.symm))
  have ne_bp1_ir : bp1 ≠ ir := Nat.ne_of_lt (Nat.lt_of_lt_of_le V_bp1.lt (Nat.le_of_eq g_ir.symm))
  have ne_bo1_ir : bo1 ≠ ir := Nat.ne_of_lt (Nat.lt_of_lt_of_le V_bo1.lt (Nat.le_of_eq g_ir.symm))
  have ne_bf1_ir : bf1 ≠ ir := Nat.ne_of_lt (Nat.lt_of_lt_of_le V_bf1.lt (Nat.le_of_eq g_ir.symm))
  have ne_t2_ir : t2 ≠ ir := Nat.ne_of_lt (Nat.lt_of_lt_of_le E_t2.lt (Nat.le_of_eq g_ir.symm))
  have ne_s2_ir : s2 ≠ ir := Nat.ne_of_lt (Nat.lt_of_lt_of_le E_s2.lt (Nat.le_of_eq g_ir.symm))
  have ne_m2_ir : m2 ≠ ir := Nat.ne_of_lt (Nat.lt_of_lt_of_le E_m2.lt (Nat.le_of_eq g_ir.symm))
  have ne_bs2_ir : bs2 ≠ ir := Nat.ne_of_lt (Nat.lt_of_lt_of_le V_bs2.lt (Nat.le_of_eq g_ir.symm))
  have ne_bp2_ir : bp2 ≠ ir := Nat.ne_of_lt (Nat.lt_of_lt_of_le V_bp2.lt (Nat.le_of_eq g_ir.symm))
  have ne_bo2_ir : bo2 ≠ ir := Nat.ne_of_lt (Nat.lt_of_lt_of_le V_bo2.lt (Nat.le_of_eq g_ir.symm))
  have ne_bf2_ir : bf2 ≠ ir := Nat.ne_of_lt (Nat.lt_of_lt_of_le V_bf2.lt (Nat.le_of_eq g_ir.symm))
  have ne_g_ir : g ≠ ir := Nat.ne_of_lt (Nat.lt_of_lt_of_le E_g.lt (Nat.le_of_eq g_ir.symm))
  have le_n0_ir : n0 ≤ ir := Nat.le_trans Z0 (Nat.le_of_eq g_ir.symm)
  have Z0 := Nat.le_trans Z0 E_18.1
  have E_r0 := E_r0.ext E_18
  have E_r1 := E_r1.ext E_18
  have E_r2 := E_r2.ext E_18
  have E_r3 := E_r3.ext E_18
  have V_lf := V_lf.ext E_18
  have E_t1 := E_t1.ext E_18
  have F_subjects_t1 := F_subjects_t1.ext E_18
  have F_predicates_t1 := F_predicates_t1.ext E_18
  have F_objects_t1 := F_objects_t1.ext E_18
  have F_firstGraphs_t1 := F_firstGraphs_t1.ext E_18
  have F_otherGraphs_t1 := F_otherGraphs_t1.ext E_18
  have F_size_t1 := F_size_t1.ext E_18
  have E_s1 := E_s1.ext E_18
  have F_map_s1 := F_map_s1.ext E_18
  have E_m1 := E_m1.ext E_18
  have F_size_m1 := F_size_m1.ext E_18
  have F_keySet_m1 := F_keySet_m1.ext E_18
  have F_head_m1 := F_head_m1.ext E_18
  have F_modCount_m1 := F_modCount_m1.ext E_18
  have V_bs1 := V_bs1.ext E_18
  have V_bp1 := V_bp1.ext E_18
  have V_bo1 := V_bo1.ext E_18
  have V_bf1 := V_bf1.ext E_18
  have E_s2 := E_s2.ext E_18
  have F_map_s2 := F_map_s2.ext E_18
  have E_m2 := E_m2.ext E_18
  have F_size_m2 := F_size_m2.ext E_18
  have F_keySet_m2 := F_keySet_m2.ext E_18
  have F_head_m2 := F_head_m2.ext E_18
  have F_modCount_m2 := F_modCount_m2.ext E_18
  have E_t2 := E_t2.ext E_18
  have F_subjects_t2 := F_subjects_t2.ext E_18
  have F_predicates_t2 := F_predicates_t2.ext E_18
  have F_objects_t2 := F_objects_t2.ext E_18
  have F_firstGraphs_t2 := F_firstGraphs_t2.ext E_18
  have F_otherGraphs_t2 := F_otherGraphs_t2.ext E_18
  have F_size_t2 := F_size_t2.ext E_18
  have V_bs2 := V_bs2.ext E_18
  have V_bp2 := V_bp2.ext E_18
  have V_bo2 := V_bo2.ext E_18
  have V_bf2 := V_bf2.ext E_18
  have E_g := E_g.ext E_18
  have F_iris_g := F_iris_g.ext E_18
  have F_predicateIris_g := F_predicateIris_g.ext E_18
  have F_graphLabels_g := F_graphLabels_g.ext E_18
  have F_linkSources_g := F_linkSources_g.ext E_18
  have F_linkPredicates_g := F_linkPredicates_g.ext E_18
  have F_linkTargets_g := F_linkTargets_g.ext E_18
  have F_linkMemberships_g := F_linkMemberships_g.ext E_18
  have F_literalSubjects_g := F_literalSubjects_g.ext E_18
  have F_literalPredicates_g := F_literalPredicates_g.ext E_18
  have F_literalMemberships_g := F_literalMemberships_g.ext E_18
  have F_literalObjects_g := F_literalObjects_g.ext E_18
  have F_lexicalForms_g := F_lexicalForms_g.ext E_18
  have F_prefixes_g := F_prefixes_g.ext E_18
  have V_ir : Arv Z h_18 ir k_ir (.object "java/lang/String") (3 : Int32) [.null, .null, .null] .null := (Arv.new A_18 (by decide)).pad (pad_rep [] .null 3)
  refine hst st_18 ?_
  show G (T_18.setTop (mkF mI 148 #[.val (.int ob), .val (.int chs), .val (.int qq), .val (.int o0), .val (.int o1), .val (.int o2), .val (.ref lf), .val (.int tq), .val (.ref t1), .val (.ref t2), .unset, .unset, .unset] [(.ref ir), (.ref g), (.ref g)]))
  refine o_iconst hst X_18.here hx (hb hby at_148) (pc' := 149) rfl (z := (1 : Int32)) rfl ?_
  obtain ⟨T_19, h_19, k_pi, X_19, e_19, E_19, A_19, O_pi, st_19⟩ := newR X_18 hx hZ hown (own_w0 hw) (own_w1 hw) e_18 (g := (mkF mI 149 #[.val (.int ob), .val (.int chs), .val (.int qq), .val (.int o0), .val (.int o1), .val (.int o2), .val (.ref lf), .val (.int tq), .val (.ref t1), .val (.ref t2), .unset, .unset, .unset] [(.int (1 : Int32)), (.ref ir), (.ref g), (.ref g)])) rfl (hb hby at_149) rfl (by decide) (cap := 1) (by decide) (by decide) (by decide) (by decide)
  obtain ⟨pi, g_pi⟩ : ∃ z, z = h_18.size := ⟨_, rfl⟩
  rw [← g_pi] at A_19 st_19
  have ne_lf_pi : lf ≠ pi := Nat.ne_of_lt (Nat.lt_of_lt_of_le V_lf.lt (Nat.le_of_eq g_pi.symm))
  have ne_t1_pi : t1 ≠ pi := Nat.ne_of_lt (Nat.lt_of_lt_of_le E_t1.lt (Nat.le_of_eq g_pi.symm))
  have ne_s1_pi : s1 ≠ pi := Nat.ne_of_lt (Nat.lt_of_lt_of_le E_s1.lt (Nat.le_of_eq g_pi.symm))
  have ne_m1_pi : m1 ≠ pi := Nat.ne_of_lt (Nat.lt_of_lt_of_le E_m1.lt (Nat.le_of_eq g_pi.symm))
  have ne_bs1_pi : bs1 ≠ pi := Nat.ne_of_lt (Nat.lt_of_lt_of_le V_bs1.lt (Nat.le_of_eq g_pi.symm))
  have ne_bp1_pi : bp1 ≠ pi := Nat.ne_of_lt (Nat.lt_of_lt_of_le V_bp1.lt (Nat.le_of_eq g_pi.symm))
  have ne_bo1_pi : bo1 ≠ pi := Nat.ne_of_lt (Nat.lt_of_lt_of_le V_bo1.lt (Nat.le_of_eq g_pi.symm))
  have ne_bf1_pi : bf1 ≠ pi := Nat.ne_of_lt (Nat.lt_of_lt_of_le V_bf1.lt (Nat.le_of_eq g_pi.symm))
  have ne_t2_pi : t2 ≠ pi := Nat.ne_of_lt (Nat.lt_of_lt_of_le E_t2.lt (Nat.le_of_eq g_pi.symm))
  have ne_s2_pi : s2 ≠ pi := Nat.ne_of_lt (Nat.lt_of_lt_of_le E_s2.lt (Nat.le_of_eq g_pi.symm))
  have ne_m2_pi : m2 ≠ pi := Nat.ne_of_lt (Nat.lt_of_lt_of_le E_m2.lt (Nat.le_of_eq g_pi.symm))
  have ne_bs2_pi : bs2 ≠ pi := Nat.ne_of_lt (Nat.lt_of_lt_of_le V_bs2.lt (Nat.le_of_eq g_pi.symm))
  have ne_bp2_pi : bp2 ≠ pi := Nat.ne_of_lt (Nat.lt_of_lt_of_le V_bp2.lt (Nat.le_of_eq g_pi.symm))
  have ne_bo2_pi : bo2 ≠ pi := Nat.ne_of_lt (Nat.lt_of_lt_of_le V_bo2.lt (Nat.le_of_eq g_pi.symm))
  have ne_bf2_pi : bf2 ≠ pi := Nat.ne_of_lt (Nat.lt_of_lt_of_le V_bf2.lt (Nat.le_of_eq g_pi.symm))
  have ne_g_pi : g ≠ pi := Nat.ne_of_lt (Nat.lt_of_lt_of_le E_g.lt (Nat.le_of_eq g_pi.symm))
  have le_n0_pi : n0 ≤ pi := Nat.le_trans Z0 (Nat.le_of_eq g_pi.symm)
  have Z0 := Nat.le_trans Z0 E_19.1
  have E_r0 := E_r0.ext E_19
  have E_r1 := E_r1.ext E_19
  have E_r2 := E_r2.ext E_19
  have E_r3 := E_r3.ext E_19
  have V_lf := V_lf.ext E_19
  have E_t1 := E_t1.ext E_19
  have F_subjects_t1 := F_subjects_t1.ext E_19
  have F_predicates_t1 := F_predicates_t1.ext E_19
  have F_objects_t1 := F_objects_t1.ext E_19
  have F_firstGraphs_t1 := F_firstGraphs_t1.ext E_19
  have F_otherGraphs_t1 := F_otherGraphs_t1.ext E_19
  have F_size_t1 := F_size_t1.ext E_19
  have E_s1 := E_s1.ext E_19
  have F_map_s1 := F_map_s1.ext E_19
  have E_m1 := E_m1.ext E_19
  have F_size_m1 := F_size_m1.ext E_19
  have F_keySet_m1 := F_keySet_m1.ext E_19
  have F_head_m1 := F_head_m1.ext E_19
  have F_modCount_m1 := F_modCount_m1.ext E_19
  have V_bs1 := V_bs1.ext E_19
  have V_bp1 := V_bp1.ext E_19
  have V_bo1 := V_bo1.ext E_19
  have V_bf1 := V_bf1.ext E_19
  have E_s2 := E_s2.ext E_19
  have F_map_s2 := F_map_s2.ext E_19
  have E_m2 := E_m2.ext E_19
  have F_size_m2 := F_size_m2.ext E_19
  have F_keySet_m2 := F_keySet_m2.ext E_19
  have F_head_m2 := F_head_m2.ext E_19
  have F_modCount_m2 := F_modCount_m2.ext E_19
  have E_t2 := E_t2.ext E_19
  have F_subjects_t2 := F_subjects_t2.ext E_19
  have F_predicates_t2 := F_predicates_t2.ext E_19
  have F_objects_t2 := F_objects_t2.ext E_19
  have F_firstGraphs_t2 := F_firstGraphs_t2.ext E_19
  have F_otherGraphs_t2 := F_otherGraphs_t2.ext E_19
  have F_size_t2 := F_size_t2.ext E_19
  have V_bs2 := V_bs2.ext E_19
  have V_bp2 := V_bp2.ext E_19
  have V_bo2 := V_bo2.ext E_19
  have V_bf2 := V_bf2.ext E_19
  have E_g := E_g.ext E_19
  have F_iris_g := F_iris_g.ext E_19
  have F_predicateIris_g := F_predicateIris_g.ext E_19
  have F_graphLabels_g := F_graphLabels_g.ext E_19
  have F_linkSources_g := F_linkSources_g.ext E_19
  have F_linkPredicates_g := F_linkPredicates_g.ext E_19
  have F_linkTargets_g := F_linkTargets_g.ext E_19
  have F_linkMemberships_g := F_linkMemberships_g.ext E_19
  have F_literalSubjects_g := F_literalSubjects_g.ext E_19
  have F_literalPredicates_g := F_literalPredicates_g.ext E_19
  have F_literalMemberships_g := F_literalMemberships_g.ext E_19
  have F_literalObjects_g := F_literalObjects_g.ext E_19
  have F_lexicalForms_g := F_lexicalForms_g.ext E_19
  have F_prefixes_g := F_prefixes_g.ext E_19
  have V_pi : Arv Z h_19 pi k_pi (.object "java/lang/String") (1 : Int32) [.null] .null := (Arv.new A_19 (by decide)).pad (pad_rep [] .null 1)
  refine hst st_19 ?_
  show G (T_19.setTop (mkF mI 152 #[.val (.int ob), .val (.int chs), .val (.int qq), .val (.int o0), .val (.int o1), .val (.int o2), .val (.ref lf), .val (.int tq), .val (.ref t1), .val (.ref t2), .unset, .unset, .unset] [(.ref pi), (.ref ir), (.ref g), (.ref g)]))
  refine o_iconst hst X_19.here hx (hb hby at_152) (pc' := 153) rfl (z := (1 : Int32)) rfl ?_
  obtain ⟨T_20, h_20, k_gl, X_20, e_20, E_20, A_20, O_gl, st_20⟩ := newR X_19 hx hZ hown (own_w0 hw) (own_w1 hw) e_19 (g := (mkF mI 153 #[.val (.int ob), .val (.int chs), .val (.int qq), .val (.int o0), .val (.int o1), .val (.int o2), .val (.ref lf), .val (.int tq), .val (.ref t1), .val (.ref t2), .unset, .unset, .unset] [(.int (1 : Int32)), (.ref pi), (.ref ir), (.ref g), (.ref g)])) rfl (hb hby at_153) rfl (by decide) (cap := 1) (by decide) (by decide) (by decide) (by decide)
  obtain ⟨gl, g_gl⟩ : ∃ z, z = h_19.size := ⟨_, rfl⟩
  rw [← g_gl] at A_20 st_20
  have ne_lf_gl : lf ≠ gl := Nat.ne_of_lt (Nat.lt_of_lt_of_le V_lf.lt (Nat.le_of_eq g_gl.symm))
  have ne_t1_gl : t1 ≠ gl := Nat.ne_of_lt (Nat.lt_of_lt_of_le E_t1.lt (Nat.le_of_eq g_gl.symm))
  have ne_s1_gl : s1 ≠ gl := Nat.ne_of_lt (Nat.lt_of_lt_of_le E_s1.lt (Nat.le_of_eq g_gl.symm))
  have ne_m1_gl : m1 ≠ gl := Nat.ne_of_lt (Nat.lt_of_lt_of_le E_m1.lt (Nat.le_of_eq g_gl.symm))
  have ne_bs1_gl : bs1 ≠ gl := Nat.ne_of_lt (Nat.lt_of_lt_of_le V_bs1.lt (Nat.le_of_eq g_gl.symm))
  have ne_bp1_gl : bp1 ≠ gl := Nat.ne_of_lt (Nat.lt_of_lt_of_le V_bp1.lt (Nat.le_of_eq g_gl.symm))
  have ne_bo1_gl : bo1 ≠ gl := Nat.ne_of_lt (Nat.lt_of_lt_of_le V_bo1.lt (Nat.le_of_eq g_gl.symm))
  have ne_bf1_gl : bf1 ≠ gl := Nat.ne_of_lt (Nat.lt_of_lt_of_le V_bf1.lt (Nat.le_of_eq g_gl.symm))
  have ne_t2_gl : t2 ≠ gl := Nat.ne_of_lt (Nat.lt_of_lt_of_le E_t2.lt (Nat.le_of_eq g_gl.symm))
  have ne_s2_gl : s2 ≠ gl := Nat.ne_of_lt (Nat.lt_of_lt_of_le E_s2.lt (Nat.le_of_eq g_gl.symm))
  have ne_m2_gl : m2 ≠ gl := Nat.ne_of_lt (Nat.lt_of_lt_of_le E_m2.lt (Nat.le_of_eq g_gl.symm))
  have ne_bs2_gl : bs2 ≠ gl := Nat.ne_of_lt (Nat.lt_of_lt_of_le V_bs2.lt (Nat.le_of_eq g_gl.symm))
  have ne_bp2_gl : bp2 ≠ gl := Nat.ne_of_lt (Nat.lt_of_lt_of_le V_bp2.lt (Nat.le_of_eq g_gl.symm))
  have ne_bo2_gl : bo2 ≠ gl := Nat.ne_of_lt (Nat.lt_of_lt_of_le V_bo2.lt (Nat.le_of_eq g_gl.symm))
  have ne_bf2_gl : bf2 ≠ gl := Nat.ne_of_lt (Nat.lt_of_lt_of_le V_bf2.lt (Nat.le_of_eq g_gl.symm))
  have ne_g_gl : g ≠ gl := Nat.ne_of_lt (Nat.lt_of_lt_of_le E_g.lt (Nat.le_of_eq g_gl.symm))
  have le_n0_gl : n0 ≤ gl := Nat.le_trans Z0 (Nat.le_of_eq g_gl.symm)
  have Z0 := Nat.le_trans Z0 E_20.1
  have E_r0 := E_r0.ext E_20
  have E_r1 := E_r1.ext E_20
  have E_r2 := E_r2.ext E_20
  have E_r3 := E_r3.ext E_20
  have V_lf := V_lf.ext E_20
  have E_t1 := E_t1.ext E_20
  have F_subjects_t1 := F_subjects_t1.ext E_20
  have F_predicates_t1 := F_predicates_t1.ext E_20
  have F_objects_t1 := F_objects_t1.ext E_20
  have F_firstGraphs_t1 := F_firstGraphs_t1.ext E_20
  have F_otherGraphs_t1 := F_otherGraphs_t1.ext E_20
  have F_size_t1 := F_size_t1.ext E_20
  have E_s1 := E_s1.ext E_20
  have F_map_s1 := F_map_s1.ext E_20
  have E_m1 := E_m1.ext E_20
  have F_size_m1 := F_size_m1.ext E_20
  have F_keySet_m1 := F_keySet_m1.ext E_20
  have F_head_m1 := F_head_m1.ext E_20
  have F_modCount_m1 := F_modCount_m1.ext E_20
  have V_bs1 := V_bs1.ext E_20
  have V_bp1 := V_bp1.ext E_20
  have V_bo1 := V_bo1.ext E_20
  have V_bf1 := V_bf1.ext E_20
  have E_s2 := E_s2.ext E_20
  have F_map_s2 := F_map_s2.ext E_20
  have E_m2 := E_m2.ext E_20
  have F_size_m2 := F_size_m2.ext E_20
  have F_keySet_m2 := F_keySet_m2.ext E_20
  have F_head_m2 := F_head_m2.ext E_20
  have F_modCount_m2 := F_modCount_m2.ext E_20
  have E_t2 := E_t2.ext E_20
  have F_subjects_t2 := F_subjects_t2.ext E_20
  have F_predicates_t2 := F_predicates_t2.ext E_20
  have F_objects_t2 := F_objects_t2.ext E_20
  have F_firstGraphs_t2 := F_firstGraphs_t2.ext E_20
  have F_otherGraphs_t2 := F_otherGraphs_t2.ext E_20
  have F_size_t2 := F_size_t2.ext E_20
  have V_bs2 := V_bs2.ext E_20
  have V_bp2 := V_bp2.ext E_20
  have V_bo2 := V_bo2.ext E_20
  have V_bf2 := V_bf2.ext E_20
  have E_g := E_g.ext E_20
  have F_iris_g := F_iris_g.ext E_20
  have F_predicateIris_g := F_predicateIris_g.ext E_20
  have F_graphLabels_g := F_graphLabels_g.ext E_20
  have F_linkSources_g := F_linkSources_g.ext E_20
  have F_linkPredicates_g := F_linkPredicates_g.ext E_20
  have F_linkTargets_g := F_linkTargets_g.ext E_20
  have F_linkMemberships_g := F_linkMemberships_g.ext E_20
  have F_literalSubjects_g := F_literalSubjects_g.ext E_20
  have F_literalPredicates_g := F_literalPredicates_g.ext E_20
  have F_literalMemberships_g := F_literalMemberships_g.ext E_20
  have F_literalObjects_g := F_literalObjects_g.ext E_20
  have F_lexicalForms_g := F_lexicalForms_g.ext E_20
  have F_prefixes_g := F_prefixes_g.ext E_20
  have V_gl : Arv Z h_20 gl k_gl (.object "java/lang/String") (1 : Int32) [.null] .null := (Arv.new A_20 (by decide)).pad (pad_rep [] .null 1)
  refine hst st_20 ?_
  show G (T_20.setTop (mkF mI 156 #[.val (.int ob), .val (.int chs), .val (.int qq), .val (.int o0), .val (.int o1), .val (.int o2), .val (.ref lf), .val (.int tq), .val (.ref t1), .val (.ref t2), .unset, .unset, .unset] [(.ref gl), (.ref pi), (.ref ir), (.ref g), (.ref g)]))
  refine o_aload hst X_20.here hx (hb hby at_156) (pc' := 158) rfl rfl rfl ?_
  refine o_aload hst X_20.here hx (hb hby at_158) (pc' := 160) rfl rfl rfl ?_
  refine o_aload hst X_20.here hx (hb hby at_160) (pc' := 162) rfl rfl rfl ?_
  obtain ⟨T_21, h_21, X_21, e_21, E_21, A_21, D_21, -, st_21⟩ := newO X_20 hx hZ hown (own_w134 hw) (own_w135 hw) (own_w136 hw) e_20 (g := (mkF mI 162 #[.val (.int ob), .val (.int chs), .val (.int qq), .val (.int o0), .val (.int o1), .val (.int o2), .val (.ref lf), .val (.int tq), .val (.ref t1), .val (.ref t2), .unset, .unset, .unset] [(.ref lf), (.ref t2), (.ref t1), (.ref gl), (.ref pi), (.ref ir), (.ref g), (.ref g)])) rfl (hb hby at_162) (by decide) (by decide)
  obtain ⟨px, g_px⟩ : ∃ z, z = h_20.size := ⟨_, rfl⟩
  rw [← g_px] at A_21 D_21 st_21
  have ne_lf_px : lf ≠ px := Nat.ne_of_lt (Nat.lt_of_lt_of_le V_lf.lt (Nat.le_of_eq g_px.symm))
  have ne_t1_px : t1 ≠ px := Nat.ne_of_lt (Nat.lt_of_lt_of_le E_t1.lt (Nat.le_of_eq g_px.symm))
  have ne_s1_px : s1 ≠ px := Nat.ne_of_lt (Nat.lt_of_lt_of_le E_s1.lt (Nat.le_of_eq g_px.symm))
  have ne_m1_px : m1 ≠ px := Nat.ne_of_lt (Nat.lt_of_lt_of_le E_m1.lt (Nat.le_of_eq g_px.symm))
  have ne_bs1_px : bs1 ≠ px := Nat.ne_of_lt (Nat.lt_of_lt_of_le V_bs1.lt (Nat.le_of_eq g_px.symm))
  have ne_bp1_px : bp1 ≠ px := Nat.ne_of_lt (Nat.lt_of_lt_of_le V_bp1.lt (Nat.le_of_eq g_px.symm))
  have ne_bo1_px : bo1 ≠ px := Nat.ne_of_lt (Nat.lt_of_lt_of_le V_bo1.lt (Nat.le_of_eq g_px.symm))
  have ne_bf1_px : bf1 ≠ px := Nat.ne_of_lt (Nat.lt_of_lt_of_le V_bf1.lt (Nat.le_of_eq g_px.symm))
  have ne_t2_px : t2 ≠ px := Nat.ne_of_lt (Nat.lt_of_lt_of_le E_t2.lt (Nat.le_of_eq g_px.symm))
  have ne_s2_px : s2 ≠ px := Nat.ne_of_lt (Nat.lt_of_lt_of_le E_s2.lt (Nat.le_of_eq g_px.symm))
  have ne_m2_px : m2 ≠ px := Nat.ne_of_lt (Nat.lt_of_lt_of_le E_m2.lt (Nat.le_of_eq g_px.symm))
  have ne_bs2_px : bs2 ≠ px := Nat.ne_of_lt (Nat.lt_of_lt_of_le V_bs2.lt (Nat.le_of_eq g_px.symm))
  have ne_bp2_px : bp2 ≠ px := Nat.ne_of_lt (Nat.lt_of_lt_of_le V_bp2.lt (Nat.le_of_eq g_px.symm))
  have ne_bo2_px : bo2 ≠ px := Nat.ne_of_lt (Nat.lt_of_lt_of_le V_bo2.lt (Nat.le_of_eq g_px.symm))
  have ne_bf2_px : bf2 ≠ px := Nat.ne_of_lt (Nat.lt_of_lt_of_le V_bf2.lt (Nat.le_of_eq g_px.symm))
  have ne_g_px : g ≠ px := Nat.ne_of_lt (Nat.lt_of_lt_of_le E_g.lt (Nat.le_of_eq g_px.symm))
  have le_n0_px : n0 ≤ px := Nat.le_trans Z0 (Nat.le_of_eq g_px.symm)
  have Z0 := Nat.le_trans Z0 E_21.1
  have E_r0 := E_r0.ext E_21
  have E_r1 := E_r1.ext E_21
  have E_r2 := E_r2.ext E_21
  have E_r3 := E_r3.ext E_21
  have V_lf := V_lf.ext E_21
  have E_t1 := E_t1.ext E_21
  have F_subjects_t1 := F_subjects_t1.ext E_21
  have F_predicates_t1 := F_predicates_t1.ext E_21
  have F_objects_t1 := F_objects_t1.ext E_21
  have F_firstGraphs_t1 := F_firstGraphs_t1.ext E_21
  have F_otherGraphs_t1 := F_otherGraphs_t1.ext E_21
  have F_size_t1 := F_size_t1.ext E_21
  have E_s1 := E_s1.ext E_21
  have F_map_s1 := F_map_s1.ext E_21
  have E_m1 := E_m1.ext E_21
  have F_size_m1 := F_size_m1.ext E_21
  have F_keySet_m1 := F_keySet_m1.ext E_21
  have F_head_m1 := F_head_m1.ext E_21
  have F_modCount_m1 := F_modCount_m1.ext E_21
  have V_bs1 := V_bs1.ext E_21
  have V_bp1 := V_bp1.ext E_21
  have V_bo1 := V_bo1.ext E_21
  have V_bf1 := V_bf1.ext E_21
  have E_s2 := E_s2.ext E_21
  have F_map_s2 := F_map_s2.ext E_21
  have E_m2 := E_m2.ext E_21
  have F_size_m2 := F_size_m2.ext E_21
  have F_keySet_m2 := F_keySet_m2.ext E_21
  have F_head_m2 := F_head_m2.ext E_21
  have F_modCount_m2 := F_modCount_m2.ext E_21
  have E_t2 := E_t2.ext E_21
  have F_subjects_t2 := F_subjects_t2.ext E_21
  have F_predicates_t2 := F_predicates_t2.ext E_21
  have F_objects_t2 := F_objects_t2.ext E_21
  have F_firstGraphs_t2 := F_firstGraphs_t2.ext E_21
  have F_otherGraphs_t2 := F_otherGraphs_t2.ext E_21
  have F_size_t2 := F_size_t2.ext E_21
  have V_bs2 := V_bs2.ext E_21
  have V_bp2 := V_bp2.ext E_21
  have V_bo2 := V_bo2.ext E_21
  have V_bf2 := V_bf2.ext E_21
  have E_g := E_g.ext E_21
  have F_iris_g := F_iris_g.ext E_21
  have F_predicateIris_g := F_predicateIris_g.ext E_21
  have F_graphLabels_g := F_graphLabels_g.ext E_21
  have F_linkSources_g := F_linkSources_g.ext E_21
  have F_linkPredicates_g := F_linkPredicates_g.ext E_21
  have F_linkTargets_g := F_linkTargets_g.ext E_21
  have F_linkMemberships_g := F_linkMemberships_g.ext E_21
  have F_literalSubjects_g := F_literalSubjects_g.ext E_21
  have F_literalPredicates_g := F_literalPredicates_g.ext E_21
  have F_literalMemberships_g := F_literalMemberships_g.ext E_21
  have F_literalObjects_g := F_literalObjects_g.ext E_21
  have F_lexicalForms_g := F_lexicalForms_g.ext E_21
  have F_prefixes_g := F_prefixes_g.ext E_21
  have E_px : Exa Z h_21 px own_PX := A_21
  have F_declarations_px : Fld Z h_21 px own_PX "declarations" "Ljava/util/Map;" .null := D_21 (Or.inr (own_w151 hw)) (ty := (.object "java/util/Map")) (by decide)
  refine hst st_21 ?_
  show G (T_21.setTop (mkF mI 165 #[.val (.int ob), .val (.int chs), .val (.int qq), .val (.int o0), .val (.int o1), .val (.int o2), .val (.ref lf), .val (.int tq), .val (.ref t1), .val (.ref t2), .unset, .unset, .unset] [(.ref px), (.ref lf), (.ref t2), (.ref t1), (.ref gl), (.ref pi), (.ref ir), (.ref g), (.ref g)]))
  refine o_dup hst X_21.here hx (hb hby at_165) (pc' := 166) rfl rfl ?_
  obtain ⟨_, _, ⟨T_22, L_22, k_22, n_22⟩, -, X_22, ⟨Lc_22, hQ_22, l_22, y_22, z_22⟩, st_22⟩ := X_21.specialBack hx (y := (⟨own_PX, "<init>", "()V"⟩ : MethodName)) rfl hown (mvT hZ (own_w137 hw)) (mvT hZ (own_w138 hw)) (mvT hZ (own_w139 hw)) (by decide) (backOf (W := 9) (rmpx lL Z a0 hw [] px  h_21 n0 Z0 F_declarations_px E_px le_n0_px) hZ (own_w139 hw) (own_w136 hw) (by decide) (by decide)) (g := (mkF mI 166 #[.val (.int ob), .val (.int chs), .val (.int qq), .val (.int o0), .val (.int o1), .val (.int o2), .val (.ref lf), .val (.int tq), .val (.ref t1), .val (.ref t2), .unset, .unset, .unset] [(.ref px), (.ref px), (.ref lf), (.ref t2), (.ref t1), (.ref gl), (.ref pi), (.ref ir), (.ref g), (.ref g)])) rfl (by rw [hml]; rfl) (Steps.refl _) (a := px) (argsL := []) (rest := [(.ref px), (.ref lf), (.ref t2), (.ref t1), (.ref gl), (.ref pi), (.ref ir), (.ref g), (.ref g)]) (lenOf pd_0 rfl) rfl (by show 2 * 0 + _ ≤ _; exact Nat.le_of_eq rfl) (hb hby at_166) (fun _ _ => ⟨rfl, e_21, (by decide : 30 + 1 ≤ _), (by decide : 12371 + 12 ≤ _)⟩)
  dsimp only [Pt.U, Pt.locs, Pt.cells, Pt.slots] at X_22 l_22 y_22 z_22 st_22 hQ_22
  subst l_22 y_22 z_22
  obtain ⟨rfl, N_22q, K_22⟩ := hQ_22
  have Z0 := Nat.le_trans Z0 K_22.1
  have E_r0 := E_r0.keep K_22
  have E_r1 := E_r1.keep K_22
  have E_r2 := E_r2.keep K_22
  have E_r3 := E_r3.keep K_22
  have V_lf := V_lf.keep K_22 (ninS ne_lf_px nin0)
  have E_t1 := E_t1.keep K_22
  have F_subjects_t1 := F_subjects_t1.keep K_22 (ninS ne_t1_px nin0)
  have F_predicates_t1 := F_predicates_t1.keep K_22 (ninS ne_t1_px nin0)
  have F_objects_t1 := F_objects_t1.keep K_22 (ninS ne_t1_px nin0)
  have F_firstGraphs_t1 := F_firstGraphs_t1.keep K_22 (ninS ne_t1_px nin0)
  have F_otherGraphs_t1 := F_otherGraphs_t1.keep K_22 (ninS ne_t1_px nin0)
  have F_size_t1 := F_size_t1.keep K_22 (ninS ne_t1_px nin0)
  have E_s1 := E_s1.keep K_22
  have F_map_s1 := F_map_s1.keep K_22 (ninS ne_s1_px nin0)
  have E_m1 := E_m1.keep K_22
  have F_size_m1 := F_size_m1.keep K_22 (ninS ne_m1_px nin0)
  have F_keySet_m1 := F_keySet_m1.keep K_22 (ninS ne_m1_px nin0)
  have F_head_m1 := F_head_m1.keep K_22 (ninS ne_m1_px nin0)
  have F_modCount_m1 := F_modCount_m1.keep K_22 (ninS ne_m1_px nin0)
  have V_bs1 := V_bs1.keep K_22 (ninS ne_bs1_px nin0)
  have V_bp1 := V_bp1.keep K_22 (ninS ne_bp1_px nin0)
  have V_bo1 := V_bo1.keep K_22 (ninS ne_bo1_px nin0)
  have V_bf1 := V_bf1.keep K_22 (ninS ne_bf1_px nin0)
  have E_s2 := E_s2.keep K_22
  have F_map_s2 := F_map_s2.keep K_22 (ninS ne_s2_px nin0)
  have E_m2 := E_m2.keep K_22
  have F_size_m2 := F_size_m2.keep K_22 (ninS ne_m2_px nin0)
  have F_keySet_m2 := F_keySet_m2.keep K_22 (ninS ne_m2_px nin0)
  have F_head_m2 := F_head_m2.keep K_22 (ninS ne_m2_px nin0)
  have F_modCount_m2 := F_modCount_m2.keep K_22 (ninS ne_m2_px nin0)
  have E_t2 := E_t2.keep K_22
  have F_subjects_t2 := F_subjects_t2.keep K_22 (ninS ne_t2_px nin0)
  have F_predicates_t2 := F_predicates_t2.keep K_22 (ninS ne_t2_px nin0)
  have F_objects_t2 := F_objects_t2.keep K_22 (ninS ne_t2_px nin0)
  have F_firstGraphs_t2 := F_firstGraphs_t2.keep K_22 (ninS ne_t2_px nin0)
  have F_otherGraphs_t2 := F_otherGraphs_t2.keep K_22 (ninS ne_t2_px nin0)
  have F_size_t2 := F_size_t2.keep K_22 (ninS ne_t2_px nin0)
  have V_bs2 := V_bs2.keep K_22 (ninS ne_bs2_px nin0)
  have V_bp2 := V_bp2.keep K_22 (ninS ne_bp2_px nin0)
  have V_bo2 := V_bo2.keep K_22 (ninS ne_bo2_px nin0)
  have V_bf2 := V_bf2.keep K_22 (ninS ne_bf2_px nin0)
  have E_g := E_g.keep K_22
  have F_iris_g := F_iris_g.keep K_22 (ninS ne_g_px nin0)
  have F_predicateIris_g := F_predicateIris_g.keep K_22 (ninS ne_g_px nin0)
  have F_graphLabels_g := F_graphLabels_g.keep K_22 (ninS ne_g_px nin0)
  have F_linkSources_g := F_linkSources_g.keep K_22 (ninS ne_g_px nin0)
  have F_linkPredicates_g := F_linkPredicates_g.keep K_22 (ninS ne_g_px nin0)
  have F_linkTargets_g := F_linkTargets_g.keep K_22 (ninS ne_g_px nin0)
  have F_linkMemberships_g := F_linkMemberships_g.keep K_22 (ninS ne_g_px nin0)
  have F_literalSubjects_g := F_literalSubjects_g.keep K_22 (ninS ne_g_px nin0)
  have F_literalPredicates_g := F_literalPredicates_g.keep K_22 (ninS ne_g_px nin0)
  have F_literalMemberships_g := F_literalMemberships_g.keep K_22 (ninS ne_g_px nin0)
  have F_literalObjects_g := F_literalObjects_g.keep K_22 (ninS ne_g_px nin0)
  have F_lexicalForms_g := F_lexicalForms_g.keep K_22 (ninS ne_g_px nin0)
  have F_prefixes_g := F_prefixes_g.keep K_22 (ninS ne_g_px nin0)
  have E_px := E_px.keep K_22
  have N_22 := Fr.app N_16 N_22q
  refine hst (fun _ kt => st_22.trans kt) ?_
  show G (T_22.setTop (mkF mI 169 #[.val (.int ob), .val (.int chs), .val (.int qq), .val (.int o0), .val (.int o1), .val (.int o2), .val (.ref lf), .val (.int tq), .val (.ref t1), .val (.ref t2), .unset, .unset, .unset] [(.ref px), (.ref lf), (.ref t2), (.ref t1), (.ref gl), (.ref pi), (.ref ir), (.ref g), (.ref g)]))
  have ne_g_t1 := (Ne.symm ne_t1_g)
  have ne_g_s1 := (Ne.symm ne_s1_g)
  have ne_g_m1 := (Ne.symm ne_m1_g)
  have ne_g_bs1 := (Ne.symm ne_bs1_g)
  have ne_g_bp1 := (Ne.symm ne_bp1_g)
  have ne_g_bo1 := (Ne.symm ne_bo1_g)
  have ne_g_bf1 := (Ne.symm ne_bf1_g)
  have ne_g_t2 := (Ne.symm ne_t2_g)
  have ne_g_s2 := (Ne.symm ne_s2_g)
  have ne_g_m2 := (Ne.symm ne_m2_g)
  have ne_g_bs2 := (Ne.symm ne_bs2_g)
  have ne_g_bp2 := (Ne.symm ne_bp2_g)
  have ne_g_bo2 := (Ne.symm ne_bo2_g)
  have ne_g_bf2 := (Ne.symm ne_bf2_g)
  obtain ⟨_, _, ⟨T_23, L_23, k_23, n_23⟩, -, X_23, ⟨Lc_23, hQ_23, l_23, y_23, z_23⟩, st_23⟩ := X_22.specialBack hx (y := (⟨own_RG, "<init>", "([Ljava/lang/String;[Ljava/lang/String;[Ljava/lang/String;Lcom/example/weser/weser/core/TripleTable;Lcom/example/weser/weser/core/TripleTable;[Ljava/lang/String;Lcom/example/weser/weser/core/Prefixes;)V"⟩ : MethodName)) rfl hown (mvT hZ (own_w152 hw)) (mvT hZ (own_w153 hw)) (mvT hZ (own_w154 hw)) (by decide) (backOf (W := 1) (rmrg lL Z a0 hw [] g ir pi gl t1 t2 lf px s1 m1 bs1 bp1 bo1 bf1 s2 m2 bs2 bp2 bo2 bf2 k_bs1 k_bp1 k_bo1 k_bf1 k_bs2 k_bp2 k_bo2 k_bf2 o0 o1 o2 (0 : Int32) (1 : Int32) (2 : Int32) (0 : Int32) (0 : Int32) (0 : Int32) (0 : Int32) (0 : Int32) (0 : Int32) T_22.heap n0 Z0 F_iris_g F_predicateIris_g F_graphLabels_g F_linkSources_g F_linkPredicates_g F_linkTargets_g F_linkMemberships_g F_literalSubjects_g F_literalPredicates_g F_literalMemberships_g F_literalObjects_g F_lexicalForms_g F_prefixes_g E_g le_n0_g E_t1 F_subjects_t1 F_predicates_t1 F_objects_t1 F_firstGraphs_t1 F_otherGraphs_t1 F_size_t1 E_s1 F_map_s1 E_m1 F_size_m1 F_keySet_m1 F_head_m1 F_modCount_m1 V_bs1 V_bp1 V_bo1 V_bf1 E_t2 F_subjects_t2 F_predicates_t2 F_objects_t2 F_firstGraphs_t2 F_otherGraphs_t2 F_size_t2 E_s2 F_map_s2 E_m2 F_size_m2 F_keySet_m2 F_head_m2 F_modCount_m2 V_bs2 V_bp2 V_bo2 V_bf2 le_n0_m1 le_n0_m2 ne_g_t1 ne_g_s1 ne_g_m1 ne_g_bs1 ne_g_bp1 ne_g_bo1 ne_g_bf1 ne_g_t2 ne_g_s2 ne_g_m2 ne_g_bs2 ne_g_bp2 ne_g_bo2 ne_g_bf2 ne_m1_m2) hZ (own_w154 hw) (own_w133 hw) (by decide) (by decide)) (g := (mkF mI 169 #[.val (.int ob), .val (.int chs), .val (.int qq), .val (.int o0), .val (.int o1), .val (.int o2), .val (.ref lf), .val (.int tq), .val (.ref t1), .val (.ref t2), .unset, .unset, .unset] [(.ref px), (.ref lf), (.ref t2), (.ref t1), (.ref gl), (.ref pi), (.ref ir), (.ref g), (.ref g)])) rfl (by rw [hml]; rfl) (Steps.refl _) (a := g) (argsL := [(.ref ir), (.ref pi), (.ref gl), (.ref t1), (.ref t2), (.ref lf), (.ref px)]) (rest := [(.ref g)]) (lenOf pd_22 rfl) rfl (by show 2 * 0 + _ ≤ _; exact Nat.le_of_eq rfl) (hb hby at_169) (fun _ _ => ⟨rfl, rfl, (by decide : 31 + 16 ≤ _), (by decide : 12383 + 33 ≤ _)⟩)
  dsimp only [Pt.U, Pt.locs, Pt.cells, Pt.slots] at X_23 l_23 y_23 z_23 st_23 hQ_23
  subst l_23 y_23 z_23
  obtain ⟨rfl, N_23q, K_23, Eg_23, c, kc, le_c, F_literalObjects_g, V_c, F_lexicalForms_g⟩ := hQ_23
  have Z0 := Nat.le_trans Z0 K_23.1
  have E_r0 := E_r0.keep K_23
  have E_r1 := E_r1.keep K_23
  have E_r2 := E_r2.keep K_23
  have E_r3 := E_r3.keep K_23
  have V_lf := V_lf.keep K_23 (ninS ne_lf_g (ninS ne_lf_m1 (ninS ne_lf_m2 nin0)))
  have E_g := E_g.keep K_23
  have N_23 := Fr.app N_22 N_23q
  refine hst (fun _ kt => st_23.trans kt) ?_
  show G (T_23.setTop (mkF mI 172 #[.val (.int ob), .val (.int chs), .val (.int qq), .val (.int o0), .val (.int o1), .val (.int o2), .val (.ref lf), .val (.int tq), .val (.ref t1), .val (.ref t2), .unset, .unset, .unset] [(.ref g)]))
  refine o_astore hst X_23.here hx (hb hby at_172) (pc' := 174) rfl (Lt := #[.val (.int ob), .val (.int chs), .val (.int qq), .val (.int o0), .val (.int o1), .val (.int o2), .val (.ref lf), .val (.int tq), .val (.ref t1), .val (.ref t2), .val (.ref g), .unset, .unset]) rfl rfl ?_
  refine o_iload hst X_23.here hx (hb hby at_174) (pc' := 176) rfl rfl ?_
  rcases ht with hn | hn | hn
  ·
    subst hn
    show G (T_23.setTop (mkF mI 176 #[.val (.int ob), .val (.int chs), .val (.int qq), .val (.int o0), .val (.int o1), .val (.int o2), .val (.ref lf), .val (.int (0 : Int32)), .val (.ref t1), .val (.ref t2), .val (.ref g), .unset, .unset] [(.int (0 : Int32))]))
    have hw0 : (0 : Int32) = (0 : Int32) := by decide
    refine hst (fun _ kt => XS.ifNo X_23.here hx rfl (hb hby at_176) rfl ((if0 _ _).trans (teq hw0).2) kt) ?_
    show G (T_23.setTop (mkF mI 179 #[.val (.int ob), .val (.int chs), .val (.int qq), .val (.int o0), .val (.int o1), .val (.int o2), .val (.ref lf), .val (.int (0 : Int32)), .val (.ref t1), .val (.ref t2), .val (.ref g), .unset, .unset] []))
    refine o_iloadN hst X_23.here hx (hb hby at_179) (pc' := 180) rfl rfl ?_
    refine o_goto hst X_23.here hx (hb hby at_180) (by decide) (pc' := 196) (by decide) ?_
    refine o_istore hst X_23.here hx (hb hby at_196) (pc' := 198) rfl (Lt := #[.val (.int ob), .val (.int chs), .val (.int qq), .val (.int o0), .val (.int o1), .val (.int o2), .val (.ref lf), .val (.int (0 : Int32)), .val (.ref t1), .val (.ref t2), .val (.ref g), .val (.int o0), .unset]) rfl ?_
    refine o_aload hst X_23.here hx (hb hby at_198) (pc' := 200) rfl rfl rfl ?_
    refine o_iload hst X_23.here hx (hb hby at_200) (pc' := 202) rfl rfl ?_
    obtain ⟨rr, hrr, E_rr⟩ := own_pick ho0 E_r0 E_r1 E_r2 E_r3
    obtain ⟨cq_24, kq_24, q_24a, q_24b, q_24c⟩ := isOf hZ rfl E_g
    obtain ⟨_, _, ⟨T_24, L_24, k_24, n_24⟩, -, X_24, ⟨Lc_24, hQ_24, l_24, y_24, z_24⟩, st_24⟩ := X_23.virtualBack hx (y := (⟨own_RG, "lexicalForm", "(I)Ljava/lang/String;"⟩ : MethodName)) (z := (⟨own_RG, "lexicalForm", "(I)Ljava/lang/String;"⟩ : MethodName)) hown (mvT hZ (own_w327 hw)) (mvT hZ (own_w328 hw)) (notFace_of_selects (args := #[]) (mvT hZ (own_w330 hw))) (mvT hZ (own_w330 hw)) (mvT hZ (own_w329 hw)) (by decide) (backOf (W := 0) (rmlx lL Z a0 hw [] g (0 : Int32) c kc lf k_lf o0 o1 o2 o0 r0 r1 r2 r3 rr T_23.heap n0 Z0 F_lexicalForms_g F_literalObjects_g V_c V_lf (by decide) (by decide) rfl (own_In_lo ho0) (own_In_hi ho0) hrr) hZ (own_w331 hw) (own_w133 hw) (by decide) (by decide)) q_24a q_24c (g := (mkF mI 202 #[.val (.int ob), .val (.int chs), .val (.int qq), .val (.int o0), .val (.int o1), .val (.int o2), .val (.ref lf), .val (.int (0 : Int32)), .val (.ref t1), .val (.ref t2), .val (.ref g), .val (.int o0), .unset] [(.int (0 : Int32)), (.ref g)])) rfl (by rw [hml]; rfl) (Steps.refl _) (argsL := [(.int (0 : Int32))]) (rest := []) (lenOf pd_23 rfl) rfl (by show 2 * 0 + _ ≤ _; exact Nat.le_of_eq rfl) (hb hby at_202) (fun _ _ => ⟨rfl, rfl, (by decide : 47 + 0 ≤ _), (by decide : 12416 + 0 ≤ _)⟩)
    dsimp only [Pt.U, Pt.locs, Pt.cells, Pt.slots] at X_24 l_24 y_24 z_24 st_24 hQ_24
    subst l_24 y_24 z_24
    obtain ⟨rfl, N_24q, eh_24⟩ := hQ_24
    have N_24 := Fr.app N_23 N_24q
    refine hst (fun _ kt => st_24.trans kt) ?_
    show G (T_24.setTop (mkF mI 205 #[.val (.int ob), .val (.int chs), .val (.int qq), .val (.int o0), .val (.int o1), .val (.int o2), .val (.ref lf), .val (.int (0 : Int32)), .val (.ref t1), .val (.ref t2), .val (.ref g), .val (.int o0), .unset] [(.ref rr)]))
    refine o_astore hst X_24.here hx (hb hby at_205) (pc' := 207) rfl (Lt := #[.val (.int ob), .val (.int chs), .val (.int qq), .val (.int o0), .val (.int o1), .val (.int o2), .val (.ref lf), .val (.int (0 : Int32)), .val (.ref t1), .val (.ref t2), .val (.ref g), .val (.int o0), .val (.ref rr)]) rfl rfl ?_
    refine o_aload hst X_24.here hx (hb hby at_207) (pc' := 209) rfl rfl rfl ?_
    refine o_aload hst X_24.here hx (hb hby at_209) (pc' := 211) rfl rfl rfl ?_
    refine o_iload hst X_24.here hx (hb hby at_211) (pc' := 213) rfl rfl ?_
    obtain ⟨cl_25, Ar_25, -, S_25, M_25, Hs_25, -⟩ := id V_lf
    have hin_25 : ¬ (o0 < 0 ∨ cl_25.slots.size ≤ (o0).toNatClampNeg) := inb_of S_25 ⟨own_In_lo ho0, own_In_hi ho0⟩
    have hat_25 : cl_25.slots[(o0).toNatClampNeg]? = some (.ref rr) := Has.at Hs_25 hin_25 hrr
    refine hst (X_24.aaload hx (j := o0) (v := (.ref rr)) (by rw [eh_24]; exact Ar_25.1) (State.isArrayOf_alike hZ.alike Ar_25.2.1) rfl Ar_25.2.2 hin_25 hat_25 (g := (mkF mI 213 #[.val (.int ob), .val (.int chs), .val (.int qq), .val (.int o0), .val (.int o1), .val (.int o2), .val (.ref lf), .val (.int (0 : Int32)), .val (.ref t1), .val (.ref t2), .val (.ref g), .val (.int o0), .val (.ref rr)] [(.int o0), (.ref lf), (.ref rr)])) rfl rfl (hb hby at_213)) ?_
    show G (T_24.setTop (mkF mI 214 #[.val (.int ob), .val (.int chs), .val (.int qq), .val (.int o0), .val (.int o1), .val (.int o2), .val (.ref lf), .val (.int (0 : Int32)), .val (.ref t1), .val (.ref t2), .val (.ref g), .val (.int o0), .val (.ref rr)] [(.ref rr), (.ref rr)]))
    obtain ⟨cq_26, kq_26, q_26a, q_26b, q_26c⟩ := isOf hZ eh_24 E_rr
    obtain ⟨_, _, ⟨T_26, L_26, k_26, n_26⟩, -, X_26, ⟨Lc_26, hQ_26, l_26, y_26, z_26⟩, st_26⟩ := X_24.virtualBack hx (y := (⟨"java/lang/String", "equals", "(Ljava/lang/Object;)Z"⟩ : MethodName)) (z := (⟨"java/lang/String", "equals", "(Ljava/lang/Object;)Z"⟩ : MethodName)) hown (mvT hZ (own_w332 hw)) (mvT hZ (own_w333 hw)) (notFace_of_selects (args := #[]) (mvT hZ (own_w335 hw))) (mvT hZ (own_w335 hw)) (mvT hZ (own_w334 hw)) (by decide) (backOf (W := 0) (rmes lL Z a0 hw [] rr  T_23.heap n0 Z0) hZ (own_w336 hw) (own_w4 hw) (by decide) (by decide)) q_26a q_26c (g := (mkF mI 214 #[.val (.int ob), .val (.int chs), .val (.int qq), .val (.int o0), .val (.int o1), .val (.int o2), .val (.ref lf), .val (.int (0 : Int32)), .val (.ref t1), .val (.ref t2), .val (.ref g), .val (.int o0), .val (.ref rr)] [(.ref rr), (.ref rr)])) rfl (by rw [hml]; rfl) (Steps.refl _) (argsL := [(.ref rr)]) (rest := []) (lenOf pd_24 rfl) rfl (by show 2 * 0 + _ ≤ _; exact Nat.le_of_eq rfl) (hb hby at_214) (fun _ _ => ⟨rfl, eh_24, (by decide : 47 + 0 ≤ _), (by decide : 12416 + 0 ≤ _)⟩)
    dsimp only [Pt.U, Pt.locs, Pt.cells, Pt.slots] at X_26 l_26 y_26 z_26 st_26 hQ_26
    subst l_26 y_26 z_26
    obtain ⟨rfl, N_26q, eh_26⟩ := hQ_26
    have N_26 := Fr.app N_24 N_26q
    refine hst (fun _ kt => st_26.trans kt) ?_
    show G (T_26.setTop (mkF mI 217 #[.val (.int ob), .val (.int chs), .val (.int qq), .val (.int o0), .val (.int o1), .val (.int o2), .val (.ref lf), .val (.int (0 : Int32)), .val (.ref t1), .val (.ref t2), .val (.ref g), .val (.int o0), .val (.ref rr)] [(.int (1 : Int32))]))
    exact hend (own_goRet X_26 hx Bd.returns rfl (Or.inl ⟨rfl, by simp, _, rfl⟩) (hb hby at_217) Bd.notSynchronized (by rw [eh_26]; exact ⟨rfl, N_26⟩) (by decide) (by decide))
  ·
    subst hn
    show G (T_23.setTop (mkF mI 176 #[.val (.int ob), .val (.int chs), .val (.int qq), .val (.int o0), .val (.int o1), .val (.int o2), .val (.ref lf), .val (.int (1 : Int32)), .val (.ref t1), .val (.ref t2), .val (.ref g), .unset, .unset] [(.int (1 : Int32))]))
    have hw0 : ¬ ((1 : Int32) = (0 : Int32)) := by decide
    refine hst (fun _ kt => XS.ifYes X_23.here hx rfl (pc0 := 176) (pc' := 183) rfl (hb hby at_176) rfl ((if0 _ _).trans (feq hw0).2) (by decide) (by decide) kt) ?_
    show G (T_23.setTop (mkF mI 183 #[.val (.int ob), .val (.int chs), .val (.int qq), .val (.int o0), .val (.int o1), .val (.int o2), .val (.ref lf), .val (.int (1 : Int32)), .val (.ref t1), .val (.ref t2), .val (.ref g), .unset, .unset] []))
    refine o_iload hst X_23.here hx (hb hby at_183) (pc' := 185) rfl rfl ?_
    refine o_iconst hst X_23.here hx (hb hby at_185) (pc' := 186) rfl (z := (1 : Int32)) rfl ?_
    have hw1 : (1 : Int32) = (1 : Int32) := by decide
    refine hst (fun _ kt => XS.icmpNo X_23.here hx rfl (hb hby at_186) rfl (teq hw1).2 kt) ?_
    show G (T_23.setTop (mkF mI 189 #[.val (.int ob), .val (.int chs), .val (.int qq), .val (.int o0), .val (.int o1), .val (.int o2), .val (.ref lf), .val (.int (1 : Int32)), .val (.ref t1), .val (.ref t2), .val (.ref g), .unset, .unset] []))
    refine o_iload hst X_23.here hx (hb hby at_189) (pc' := 191) rfl rfl ?_
    refine o_goto hst X_23.here hx (hb hby at_191) (by decide) (pc' := 196) (by decide) ?_
    refine o_istore hst X_23.here hx (hb hby at_196) (pc' := 198) rfl (Lt := #[.val (.int ob), .val (.int chs), .val (.int qq), .val (.int o0), .val (.int o1), .val (.int o2), .val (.ref lf), .val (.int (1 : Int32)), .val (.ref t1), .val (.ref t2), .val (.ref g), .val (.int o1), .unset]) rfl ?_
    refine o_aload hst X_23.here hx (hb hby at_198) (pc' := 200) rfl rfl rfl ?_
    refine o_iload hst X_23.here hx (hb hby at_200) (pc' := 202) rfl rfl ?_
    obtain ⟨rr, hrr, E_rr⟩ := own_pick ho1 E_r0 E_r1 E_r2 E_r3
    obtain ⟨cq_27, kq_27, q_27a, q_27b, q_27c⟩ := isOf hZ rfl E_g
    obtain ⟨_, _, ⟨T_27, L_27, k_27, n_27⟩, -, X_27, ⟨Lc_27, hQ_27, l_27, y_27, z_27⟩, st_27⟩ := X_23.virtualBack hx (y := (⟨own_RG, "lexicalForm", "(I)Ljava/lang/String;"⟩ : MethodName)) (z := (⟨own_RG, "lexicalForm", "(I)Ljava/lang/String;"⟩ : MethodName)) hown (mvT hZ (own_w327 hw)) (mvT hZ (own_w328 hw)) (notFace_of_selects (args := #[]) (mvT hZ (own_w330 hw))) (mvT hZ (own_w330 hw)) (mvT hZ (own_w329 hw)) (by decide) (backOf (W := 0) (rmlx lL Z a0 hw [] g (1 : Int32) c kc lf k_lf o0 o1 o2 o1 r0 r1 r2 r3 rr T_23.heap n0 Z0 F_lexicalForms_g F_literalObjects_g V_c V_lf (by decide) (by decide) rfl (own_In_lo ho1) (own_In_hi ho1) hrr) hZ (own_w331 hw) (own_w133 hw) (by decide) (by decide)) q_27a q_27c (g := (mkF mI 202 #[.val (.int ob), .val (.int chs), .val (.int qq), .val (.int o0), .val (.int o1), .val (.int o2), .val (.ref lf), .val (.int (1 : Int32)), .val (.ref t1), .val (.ref t2), .val (.ref g), .val (.int o1), .unset] [(.int (1 : Int32)), (.ref g)])) rfl (by rw [hml]; rfl) (Steps.refl _) (argsL := [(.int (1 : Int32))]) (rest := []) (lenOf pd_23 rfl) rfl (by show 2 * 0 + _ ≤ _; exact Nat.le_of_eq rfl) (hb hby at_202) (fun _ _ => ⟨rfl, rfl, (by decide : 47 + 0 ≤ _), (by decide : 12416 + 0 ≤ _)⟩)
    dsimp only [Pt.U, Pt.locs, Pt.cells, Pt.slots] at X_27 l_27 y_27 z_27 st_27 hQ_27
    subst l_27 y_27 z_27
    obtain ⟨rfl, N_27q, eh_27⟩ := hQ_27
    have N_27 := Fr.app N_23 N_27q
    refine hst (fun _ kt => st_27.trans kt) ?_
    show G (T_27.setTop (mkF mI 205 #[.val (.int ob), .val (.int chs), .val (.int qq), .val (.int o0), .val (.int o1), .val (.int o2), .val (.ref lf), .val (.int (1 : Int32)), .val (.ref t1), .val (.ref t2), .val (.ref g), .val (.int o1), .unset] [(.ref rr)]))
    refine o_astore hst X_27.here hx (hb hby at_205) (pc' := 207) rfl (Lt := #[.val (.int ob), .val (.int chs), .val (.int qq), .val (.int o0), .val (.int o1), .val (.int o2), .val (.ref lf), .val (.int (1 : Int32)), .val (.ref t1), .val (.ref t2), .val (.ref g), .val (.int o1), .val (.ref rr)]) rfl rfl ?_
    refine o_aload hst X_27.here hx (hb hby at_207) (pc' := 209) rfl rfl rfl ?_
    refine o_aload hst X_27.here hx (hb hby at_209) (pc' := 211) rfl rfl rfl ?_
    refine o_iload hst X_27.here hx (hb hby at_211) (pc' := 213) rfl rfl ?_
    obtain ⟨cl_28, Ar_28, -, S_28, M_28, Hs_28, -⟩ := id V_lf
    have hin_28 : ¬ (o1 < 0 ∨ cl_28.slots.size ≤ (o1).toNatClampNeg) := inb_of S_28 ⟨own_In_lo ho1, own_In_hi ho1⟩
    have hat_28 : cl_28.slots[(o1).toNatClampNeg]? = some (.ref rr) := Has.at Hs_28 hin_28 hrr
    refine hst (X_27.aaload hx (j := o1) (v := (.ref rr)) (by rw [eh_27]; exact Ar_28.1) (State.isArrayOf_alike hZ.alike Ar_28.2.1) rfl Ar_28.2.2 hin_28 hat_28 (g := (mkF mI 213 #[.val (.int ob), .val (.int chs), .val (.int qq), .val (.int o0), .val (.int o1), .val (.int o2), .val (.ref lf), .val (.int (1 : Int32)), .val (.ref t1), .val (.ref t2), .val (.ref g), .val (.int o1), .val (.ref rr)] [(.int o1), (.ref lf), (.ref rr)])) rfl rfl (hb hby at_213)) ?_
    show G (T_27.setTop (mkF mI 214 #[.val (.int ob), .val (.int chs), .val (.int qq), .val (.int o0), .val (.int o1), .val (.int o2), .val (.ref lf), .val (.int (1 : Int32)), .val (.ref t1), .val (.ref t2), .val (.ref g), .val (.int o1), .val (.ref rr)] [(.ref rr), (.ref rr)]))
    obtain ⟨cq_29, kq_29, q_29a, q_29b, q_29c⟩ := isOf hZ eh_27 E_rr
    obtain ⟨_, _, ⟨T_29, L_29, k_29, n_29⟩, -, X_29, ⟨Lc_29, hQ_29, l_29, y_29, z_29⟩, st_29⟩ := X_27.virtualBack hx (y := (⟨"java/lang/String", "equals", "(Ljava/lang/Object;)Z"⟩ : MethodName)) (z := (⟨"java/lang/String", "equals", "(Ljava/lang/Object;)Z"⟩ : MethodName)) hown (mvT hZ (own_w332 hw)) (mvT hZ (own_w333 hw)) (notFace_of_selects (args := #[]) (mvT hZ (own_w335 hw))) (mvT hZ (own_w335 hw)) (mvT hZ (own_w334 hw)) (by decide) (backOf (W := 0) (rmes lL Z a0 hw [] rr  T_23.heap n0 Z0) hZ (own_w336 hw) (own_w4 hw) (by decide) (by decide)) q_29a q_29c (g := (mkF mI 214 #[.val (.int ob), .val (.int chs), .val (.int qq), .val (.int o0), .val (.int o1), .val (.int o2), .val (.ref lf), .val (.int (1 : Int32)), .val (.ref t1), .val (.ref t2), .val (.ref g), .val (.int o1), .val (.ref rr)] [(.ref rr), (.ref rr)])) rfl (by rw [hml]; rfl) (Steps.refl _) (argsL := [(.ref rr)]) (rest := []) (lenOf pd_24 rfl) rfl (by show 2 * 0 + _ ≤ _; exact Nat.le_of_eq rfl) (hb hby at_214) (fun _ _ => ⟨rfl, eh_27, (by decide : 47 + 0 ≤ _), (by decide : 12416 + 0 ≤ _)⟩)
    dsimp only [Pt.U, Pt.locs, Pt.cells, Pt.slots] at X_29 l_29 y_29 z_29 st_29 hQ_29
    subst l_29 y_29 z_29
    obtain ⟨rfl, N_29q, eh_29⟩ := hQ_29
    have N_29 := Fr.app N_27 N_29q
    refine hst (fun _ kt => st_29.trans kt) ?_
    show G (T_29.setTop (mkF mI 217 #[.val (.int ob), .val (.int chs), .val (.int qq), .val (.int o0), .val (.int o1), .val (.int o2), .val (.ref lf), .val (.int (1 : Int32)), .val (.ref t1), .val (.ref t2), .val (.ref g), .val (.int o1), .val (.ref rr)] [(.int (1 : Int32))]))
    exact hend (own_goRet X_29 hx Bd.returns rfl (Or.inl ⟨rfl, by simp, _, rfl⟩) (hb hby at_217) Bd.notSynchronized (by rw [eh_29]; exact ⟨rfl, N_29⟩) (by decide) (by decide))
  ·
    subst hn
    show G (T_23.setTop (mkF mI 176 #[.val (.int ob), .val (.int chs), .val (.int qq), .val (.int o0), .val (.int o1), .val (.int o2), .val (.ref lf), .val (.int (2 : Int32)), .val (.ref t1), .val (.ref t2), .val (.ref g), .unset, .unset] [(.int (2 : Int32))]))
    have hw0 : ¬ ((2 : Int32) = (0 : Int32)) := by decide
    refine hst (fun _ kt => XS.ifYes X_23.here hx rfl (pc0 := 176) (pc' := 183) rfl (hb hby at_176) rfl ((if0 _ _).trans (feq hw0).2) (by decide) (by decide) kt) ?_
    show G (T_23.setTop (mkF mI 183 #[.val (.int ob), .val (.int chs), .val (.int qq), .val (.int o0), .val (.int o1), .val (.int o2), .val (.ref lf), .val (.int (2 : Int32)), .val (.ref t1), .val (.ref t2), .val (.ref g), .unset, .unset] []))
    refine o_iload hst X_23.here hx (hb hby at_183) (pc' := 185) rfl rfl ?_
    refine o_iconst hst X_23.here hx (hb hby at_185) (pc' := 186) rfl (z := (1 : Int32)) rfl ?_
    have hw1 : ¬ ((2 : Int32) = (1 : Int32)) := by decide
    refine hst (fun _ kt => XS.icmpYes X_23.here hx rfl (pc0 := 186) (pc' := 194) rfl (hb hby at_186) rfl (feq hw1).2 (by decide) (by decide) kt) ?_
    show G (T_23.setTop (mkF mI 194 #[.val (.int ob), .val (.int chs), .val (.int qq), .val (.int o0), .val (.int o1), .val (.int o2), .val (.ref lf), .val (.int (2 : Int32)), .val (.ref t1), .val (.ref t2), .val (.ref g), .unset, .unset] []))
    refine o_iload hst X_23.here hx (hb hby at_194) (pc' := 196) rfl rfl ?_
    refine o_istore hst X_23.here hx (hb hby at_196) (pc' := 198) rfl (Lt := #[.val (.int ob), .val (.int chs), .val (.int qq), .val (.int o0), .val (.int o1), .val (.int o2), .val (.ref lf), .val (.int (2 : Int32)), .val (.ref t1), .val (.ref t2), .val (.ref g), .val (.int o2), .unset]) rfl ?_
    refine o_aload hst X_23.here hx (hb hby at_198) (pc' := 200) rfl rfl rfl ?_
    refine o_iload hst X_23.here hx (hb hby at_200) (pc' := 202) rfl rfl ?_
    obtain ⟨rr, hrr, E_rr⟩ := own_pick ho2 E_r0 E_r1 E_r2 E_r3
    obtain ⟨cq_30, kq_30, q_30a, q_30b, q_30c⟩ := isOf hZ rfl E_g
    obtain ⟨_, _, ⟨T_30, L_30, k_30, n_30⟩, -, X_30, ⟨Lc_30, hQ_30, l_30, y_30, z_30⟩, st_30⟩ := X_23.virtualBack hx (y := (⟨own_RG, "lexicalForm", "(I)Ljava/lang/String;"⟩ : MethodName)) (z := (⟨own_RG, "lexicalForm", "(I)Ljava/lang/String;"⟩ : MethodName)) hown (mvT hZ (own_w327 hw)) (mvT hZ (own_w328 hw)) (notFace_of_selects (args := #[]) (mvT hZ (own_w330 hw))) (mvT hZ (own_w330 hw)) (mvT hZ (own_w329 hw)) (by decide) (backOf (W := 0) (rmlx lL Z a0 hw [] g (2 : Int32) c kc lf k_lf o0 o1 o2 o2 r0 r1 r2 r3 rr T_23.heap n0 Z0 F_lexicalForms_g F_literalObjects_g V_c V_lf (by decide) (by decide) rfl (own_In_lo ho2) (own_In_hi ho2) hrr) hZ (own_w331 hw) (own_w133 hw) (by decide) (by decide)) q_30a q_30c (g := (mkF mI 202 #[.val (.int ob), .val (.int chs), .val (.int qq), .val (.int o0), .val (.int o1), .val (.int o2), .val (.ref lf), .val (.int (2 : Int32)), .val (.ref t1), .val (.ref t2), .val (.ref g), .val (.int o2), .unset] [(.int (2 : Int32)), (.ref g)])) rfl (by rw [hml]; rfl) (Steps.refl _) (argsL := [(.int (2 : Int32))]) (rest := []) (lenOf pd_23 rfl) rfl (by show 2 * 0 + _ ≤ _; exact Nat.le_of_eq rfl) (hb hby at_202) (fun _ _ => ⟨rfl, rfl, (by decide : 47 + 0 ≤ _), (by decide : 12416 + 0 ≤ _)⟩)
    dsimp only [Pt.U, Pt.locs, Pt.cells, Pt.slots] at X_30 l_30 y_30 z_30 st_30 hQ_30
    subst l_30 y_30 z_30
    obtain ⟨rfl, N_30q, eh_30⟩ := hQ_30
    have N_30 := Fr.app N_23 N_30q
    refine hst (fun _ kt => st_30.trans kt) ?_
    show G (T_30.setTop (mkF mI 205 #[.val (.int ob), .val (.int chs), .val (.int qq), .val (.int o0), .val (.int o1), .val (.int o2), .val (.ref lf), .val (.int (2 : Int32)), .val (.ref t1), .val (.ref t2), .val (.ref g), .val (.int o2), .unset] [(.ref rr)]))
    refine o_astore hst X_30.here hx (hb hby at_205) (pc' := 207) rfl (Lt := #[.val (.int ob), .val (.int chs), .val (.int qq), .val (.int o0), .val (.int o1), .val (.int o2), .val (.ref lf), .val (.int (2 : Int32)), .val (.ref t1), .val (.ref t2), .val (.ref g), .val (.int o2), .val (.ref rr)]) rfl rfl ?_
    refine o_aload hst X_30.here hx (hb hby at_207) (pc' := 209) rfl rfl rfl ?_
    refine o_aload hst X_30.here hx (hb hby at_209) (pc' := 211) rfl rfl rfl ?_
    refine o_iload hst X_30.here hx (hb hby at_211) (pc' := 213) rfl rfl ?_
    obtain ⟨cl_31, Ar_31, -, S_31, M_31, Hs_31, -⟩ := id V_lf
    have hin_31 : ¬ (o2 < 0 ∨ cl_31.slots.size ≤ (o2).toNatClampNeg) := inb_of S_31 ⟨own_In_lo ho2, own_In_hi ho2⟩
    have hat_31 : cl_31.slots[(o2).toNatClampNeg]? = some (.ref rr) := Has.at Hs_31 hin_31 hrr
    refine hst (X_30.aaload hx (j := o2) (v := (.ref rr)) (by rw [eh_30]; exact Ar_31.1) (State.isArrayOf_alike hZ.alike Ar_31.2.1) rfl Ar_31.2.2 hin_31 hat_31 (g := (mkF mI 213 #[.val (.int ob), .val (.int chs), .val (.int qq), .val (.int o0), .val (.int o1), .val (.int o2), .val (.ref lf), .val (.int (2 : Int32)), .val (.ref t1), .val (.ref t2), .val (.ref g), .val (.int o2), .val (.ref rr)] [(.int o2), (.ref lf), (.ref rr)])) rfl rfl (hb hby at_213)) ?_
    show G (T_30.setTop (mkF mI 214 #[.val (.int ob), .val (.int chs), .val (.int qq), .val (.int o0), .val (.int o1), .val (.int o2), .val (.ref lf), .val (.int (2 : Int32)), .val (.ref t1), .val (.ref t2), .val (.ref g), .val (.int o2), .val (.ref rr)] [(.ref rr), (.ref rr)]))
    obtain ⟨cq_32, kq_32, q_32a, q_32b, q_32c⟩ := isOf hZ eh_30 E_rr
    obtain ⟨_, _, ⟨T_32, L_32, k_32, n_32⟩, -, X_32, ⟨Lc_32, hQ_32, l_32, y_32, z_32⟩, st_32⟩ := X_30.virtualBack hx (y := (⟨"java/lang/String", "equals", "(Ljava/lang/Object;)Z"⟩ : MethodName)) (z := (⟨"java/lang/String", "equals", "(Ljava/lang/Object;)Z"⟩ : MethodName)) hown (mvT hZ (own_w332 hw)) (mvT hZ (own_w333 hw)) (notFace_of_selects (args := #[]) (mvT hZ (own_w335 hw))) (mvT hZ (own_w335 hw)) (mvT hZ (own_w334 hw)) (by decide) (backOf (W := 0) (rmes lL Z a0 hw [] rr  T_23.heap n0 Z0) hZ (own_w336 hw) (own_w4 hw) (by decide) (by decide)) q_32a q_32c (g := (mkF mI 214 #[.val (.int ob), .val (.int chs), .val (.int qq), .val (.int o0), .val (.int o1), .val (.int o2), .val (.ref lf), .val (.int (2 : Int32)), .val (.ref t1), .val (.ref t2), .val (.ref g), .val (.int o2), .val (.ref rr)] [(.ref rr), (.ref rr)])) rfl (by rw [hml]; rfl) (Steps.refl _) (argsL := [(.ref rr)]) (rest := []) (lenOf pd_24 rfl) rfl (by show 2 * 0 + _ ≤ _; exact Nat.le_of_eq rfl) (hb hby at_214) (fun _ _ => ⟨rfl, eh_30, (by decide : 47 + 0 ≤ _), (by decide : 12416 + 0 ≤ _)⟩)
    dsimp only [Pt.U, Pt.locs, Pt.cells, Pt.slots] at X_32 l_32 y_32 z_32 st_32 hQ_32
    subst l_32 y_32 z_32
    obtain ⟨rfl, N_32q, eh_32⟩ := hQ_32
    have N_32 := Fr.app N_30 N_32q
    refine hst (fun _ kt => st_32.trans kt) ?_
    show G (T_32.setTop (mkF mI 217 #[.val (.int ob), .val (.int chs), .val (.int qq), .val (.int o0), .val (.int o1), .val (.int o2), .val (.ref lf), .val (.int (2 : Int32)), .val (.ref t1), .val (.ref t2), .val (.ref g), .val (.int o2), .val (.ref rr)] [(.int (1 : Int32))]))
    exact hend (own_goRet X_32 hx Bd.returns rfl (Or.inl ⟨rfl, by simp, _, rfl⟩) (hb hby at_217) Bd.notSynchronized (by rw [eh_32]; exact ⟨rfl, N_32⟩) (by decide) (by decide))
set_option maxRecDepth 65536 in
set_option maxHeartbeats 40000000 in
theorem comes_1 {Post : Tables → Env → Array Value → State → Outcome → State → Prop} (hpost : ∀ tb e args s v u, (limb_1_1.after args s (.returned v) u = true ∧ limb_1_2.after args s (.returned v) u = true ∧ True) → FrameEnd s (.returned v) u (Jvm.fieldLocs frame_1_writes args s ++ Jvm.arrayLocs frame_1_arrays args s ++ Jvm.staticLocs frame_1_statics s) 104 24896 → Post tb e args s (.returned v) u) :
    ArmFor flags0 classFile x code maxLocals ret World_1 tables_1 room_1 Calls_1 rest_1 Pre_1 Post := by
  intro l hfl _ _ p e ha hc hk s m args below hf hA hF happ hP
  obtain ⟨hcalls, hrest, hpre⟩ := hP
  obtain ⟨-, -, -, hnamed, -, -, -, hat⟩ := (Spec.applies_iff hf).mp happ
  obtain ⟨hg, hn⟩ := and_e (Cond.before_iff.mp (show (Jvm.Cond.and given_1 narrow_1).before args s = true from hpre))
  obtain ⟨gc, g0⟩ := and_e hg
  obtain ⟨ga0, g1⟩ := and_e g0
  obtain ⟨ga1, g2⟩ := and_e g1
  obtain ⟨w0, w1, w2, rfl⟩ : ∃ w0 w1 w2 : Value, args = #[w0, w1, w2] := by
    have hs : args.size = 3 := by simpa [Cond.value, given_1] using gc
    obtain ⟨L⟩ := args
    match L, hs with
    | [w0, w1, w2], _ => exact ⟨w0, w1, w2, rfl⟩
  have hw := fun d (hd : d ∈ tables_1) => atoms_spec (ws := Jvm.Cond.code x code maxLocals ret :: tables_1) hat d (List.mem_cons_of_mem _ hd)
  have hfit : Fit s := fun {y c} hc i hi => by
    obtain ⟨ha, rfl⟩ := Array.getElem?_eq_some_iff.mp hc
    have q := List.all_eq_true.mp ((Array.all_eq_true_iff_forall_mem.mp hF) _ (Array.getElem_mem ha)) i (List.mem_range.mpr hi)
    simpa [Array.getElem?_eq_getElem hi] using q
  obtain ⟨hsets, hown0⟩ := atoms_of _ (rest_1_c_eq ▸ (show rest_1_c.before _ s = true from hrest))
  have hr0 := Cond.before_iff.mp hown0
  obtain ⟨i0, ei0⟩ := is_v ga0
  obtain rfl : w0 = (.int i0) := Option.some.inj ei0
  obtain ⟨i1, ei1⟩ := is_v ga1
  obtain rfl : w1 = (.int i1) := Option.some.inj ei1
  obtain ⟨i2, ei2⟩ := is_v g2
  obtain rfl : w2 = (.int i2) := Option.some.inj ei2
  have hs1 := Cond.before_iff.mp (hsets _ (List.mem_of_getElem? (i := 1) rfl))
  have hs2 := Cond.before_iff.mp (hsets _ (List.mem_of_getElem? (i := 2) rfl))
  obtain ⟨cz, evc⟩ := is_v hs1
  have hcz : ¬ cz = 0 := fun q => by
    subst q
    have := not_v hs2
    simp [Cond.value, evc, Term.int_eval] at this
  have S_c := Sta.start evc (Or.inl (hsets _ (List.mem_of_getElem? (i := 0) rfl)))
  obtain ⟨n, o, h1, h2, h3, _, L, rfl, ⟨rfl, N⟩, hq⟩ := rm0 l s _ hw tables_1 i0 i1 i2 cz s.heap s.heap.size (Nat.le_refl _) S_c hcz p e ha hc hk s m _ below hf ((Spec.applies_iff_loose hf).mp happ).1 ⟨rfl, State.Warmed39.refl s, rfl⟩ trivial
  refine ⟨n, _, h1, h2, h3, hpost _ _ _ _ _ _ ⟨Cond.after_iff.mpr rfl, Cond.after_iff.mpr (eq_i res_at (Term.int_eval (1)) rfl), trivial⟩ ⟨hq.1, hq.2.1, (hq.2.2.sift fun y hy => Or.inr (N y hy)).mono (by decide) (by decide)⟩⟩
theorem main_1_1 : Claimed_1_1 := comes_1 fun _ _ _ _ _ _ h hF => ⟨h.1, hF⟩
theorem main_1_2 : Claimed_1_2 := comes_1 fun _ _ _ _ _ _ h hF => ⟨h.2.1, hF⟩
end Jvm.Pilot.@@N@@
namespace Jvm.Pilot.@@N@@
open Jvm Jvm.ClassFile Sem Op Lib Jvm.Free Jvm.Stand Jvm.Pilot.@@N@@.Jvm.D
/-! MADE BY PROGRAM (witnessworld.py) out of the Statement's table words and the real class files: 46 classes; the members and pool entries that the words name. The judged class is class 1, her method 1. -/
namespace start1
open Jvm.ClassFile
def u (s : String) : CpInfo := .utf8 (stringToUtf16 s)
/-- a pool by its gaps: so many unusable entries, then the entry; so many at the end -/
def gap : Nat → List CpInfo → List CpInfo
  | 0, r => r
  | n + 1, r => .unusable :: gap n r
def poolList (es : List (Nat × CpInfo)) (last : Nat) : List CpInfo := es.foldr (fun e r => gap e.1 (e.2 :: r)) (gap last [])
def pool (es : List (Nat × CpInfo)) (last : Nat) : Array CpInfo := ⟨poolList es last⟩
def fileOf (pool : Array CpInfo) (this : Nat) (attrs : Array Attribute := #[]) (ms : Array MethodInfo := #[]) (fl : Nat := 33) (sup : Nat := 0) (ifs : Array Nat := #[]) (fds : Array FieldInfo := #[]) : ClassFile where
  minorVersion := 0
  majorVersion := 65
  constantPool := pool
  accessFlags := fl
  thisClass := this
  superClass := sup
  interfaces := ifs
  fields := fds
  methods := ms
  attributes := attrs
def plain (name : String) (sup : Option ClassId) : Class where
  name := name
  kind := .ordinary
  loader := none
  accessFlags := 33
  super := sup
  interfaces := #[]
  cf := none
  fields := #[]
  methods := #[]
  instanceTypes := #[]
  staticTypes := #[]
  resolved := #[]
  callSites := []
  init := .initialized
  statics := none
  mirror := none

def pool0 : Array CpInfo := pool [(5, u "<init>"), (0, u "()V"), (1, .class_ 10), (1, u "java/lang/Object")] 113

def k0c0 : Code := { maxStack := 0, maxLocals := 1, code := object_method_1_code, exceptionTable := #[], attributes := #[] }
def k0m0 : Method := { name := "<init>", desc := "()V", sig := { parameters := [], returnType := none }, accessFlags := 1, code := some k0c0 }
/-- java/lang/Object -/
def k0 : Class := { plain "java/lang/Object" none with
  accessFlags := 33
  interfaces := #[]
  cf := some (fileOf pool0 8 #[] #[{ accessFlags := 1, nameIndex := 5, descriptorIndex := 6, attributes := #[] }] 33 0 #[] #[])
  fields := #[]
  methods := #[k0m0]
  instanceTypes := #[]
  staticTypes := #[]
  resolved := Array.replicate 124 none
  statics := none }

def pool1 : Array CpInfo := pool [(2, .class_ 4), (0, .nameAndType 5 6), (0, u "java/lang/Object"), (0, u "<init>"), (0, u "()V"), (0, .class_ 8), (0, u "java/lang/String"), (0, .methodref 7 10), (0, .nameAndType 11 12), (0, u "valueOf"), (0, u "(C)Ljava/lang/String;"), (0, .integer 2147483647), (0, .class_ 15), (0, u "com/example/weser/weser/core/TripleTable"), (0, .methodref 14 3), (0, .methodref 14 18), (0, .nameAndType 19 20), (0, u "add"), (0, u "(IIII)V"), (0, .class_ 22), (0, u "com/example/weser/weser/core/RdfGraph"), (0, .class_ 24), (0, u "com/example/weser/weser/core/Prefixes"), (0, .methodref 23 3), (0, .methodref 21 27), (0, .nameAndType 5 28), (0, u "([Ljava/lang/String;[Ljava/lang/String;[Ljava/lang/String;Lcom/example/weser/weser/core/TripleTable;Lcom/example/weser/weser/core/TripleTable;[Ljava/lang/String;Lcom/example/weser/weser/core/Prefixes;)V"), (0, .methodref 21 30), (0, .nameAndType 31 32), (0, u "lexicalForm"), (0, u "(I)Ljava/lang/String;"), (0, .methodref 7 34), (0, .nameAndType 35 36), (0, u "equals"), (0, u "(Ljava/lang/Object;)Z"), (0, .class_ 38), (0, u "com/example/weser/weser/core/RdfGraphLexicalFormPinLaw"), (2, u "law"), (0, u "(III)Z")] 5

def k1m0 : Method := { name := "<init>", desc := "()V", sig := { parameters := [], returnType := none }, accessFlags := 1, code := none }
def k1c1 : Code := { maxStack := 10, maxLocals := 13, code := code, exceptionTable := #[], attributes := #[] }
def k1m1 : Method := { name := "law", desc := "(III)Z", sig := { parameters := [.int, .int, .int], returnType := some .boolean }, accessFlags := 9, code := some k1c1 }
/-- com/example/weser/weser/core/RdfGraphLexicalFormPinLaw -/
def k1 : Class := { plain "com/example/weser/weser/core/RdfGraphLexicalFormPinLaw" (some 0) with
  accessFlags := 49
  interfaces := #[]
  cf := some (fileOf pool1 37 #[] #[{ accessFlags := 1, nameIndex := 5, descriptorIndex := 6, attributes := #[] }, { accessFlags := 9, nameIndex := 41, descriptorIndex := 42, attributes := #[] }] 49 2 #[] #[])
  fields := #[]
  methods := #[k1m0, k1m1]
  instanceTypes := #[]
  staticTypes := #[]
  resolved := Array.replicate 48 none
  statics := none }

def pool2 : Array CpInfo := pool [(1, .class_ 2), (0, u "java/io/Serializable"), (0, .class_ 4), (0, u "java/lang/Object")] 2

/-- java/io/Serializable -/
def k2 : Class := { plain "java/io/Serializable" (some 0) with
  accessFlags := 1537
  interfaces := #[]
  cf := some (fileOf pool2 1 #[] #[] 1537 3 #[] #[])
  fields := #[]
  methods := #[]
  instanceTypes := #[]
  staticTypes := #[]
  resolved := Array.replicate 7 none
  statics := none }

def pool3 : Array CpInfo := pool [(1, .class_ 2), (0, u "java/lang/Comparable"), (0, .class_ 4), (0, u "java/lang/Object")] 7

/-- java/lang/Comparable -/
def k3 : Class := { plain "java/lang/Comparable" (some 0) with
  accessFlags := 1537
  interfaces := #[]
  cf := some (fileOf pool3 1 #[] #[] 1537 3 #[] #[])
  fields := #[]
  methods := #[]
  instanceTypes := #[]
  staticTypes := #[]
  resolved := Array.replicate 12 none
  statics := none }

def pool4 : Array CpInfo := pool [(2, .class_ 4), (1, u "java/lang/CharSequence"), (42, .class_ 48), (0, u "java/lang/CharSequence$1CodePointIterator"), (10, .class_ 60), (0, u "java/lang/CharSequence$1CharIterator"), (5, .class_ 67), (0, u "java/lang/Object")] 63

/-- java/lang/CharSequence -/
def k4 : Class := { plain "java/lang/CharSequence" (some 0) with
  accessFlags := 1537
  interfaces := #[]
  cf := some (fileOf pool4 2 #[.nestMembers #[47, 59]] #[] 1537 66 #[] #[])
  fields := #[]
  methods := #[]
  instanceTypes := #[]
  staticTypes := #[]
  resolved := Array.replicate 131 none
  statics := none }

def pool5 : Array CpInfo := pool [(1, .class_ 2), (0, u "java/lang/constant/Constable"), (0, .class_ 4), (0, u "java/lang/Object")] 6

/-- java/lang/constant/Constable -/
def k5 : Class := { plain "java/lang/constant/Constable" (some 0) with
  accessFlags := 1537
  interfaces := #[]
  cf := some (fileOf pool5 1 #[] #[] 1537 3 #[] #[])
  fields := #[]
  methods := #[]
  instanceTypes := #[]
  staticTypes := #[]
  resolved := Array.replicate 11 none
  statics := none }

def pool6 : Array CpInfo := pool [(1, .class_ 2), (0, u "java/lang/constant/ConstantDesc"), (0, .class_ 4), (0, u "java/lang/Object")] 32

/-- java/lang/constant/ConstantDesc -/
def k6 : Class := { plain "java/lang/constant/ConstantDesc" (some 0) with
  accessFlags := 1537
  interfaces := #[]
  cf := some (fileOf pool6 1 #[] #[] 1537 3 #[] #[])
  fields := #[]
  methods := #[]
  instanceTypes := #[]
  staticTypes := #[]
  resolved := Array.replicate 37 none
  statics := none }

def pool7 : Array CpInfo := pool [(1, .methodref 2 3), (0, .class_ 4), (0, .nameAndType 5 6), (0, u "java/lang/Object"), (0, u "<init>"), (0, u "()V"), (2, .fieldref 10 11), (0, .class_ 12), (0, .nameAndType 13 14), (0, u "java/lang/String"), (0, u "value"), (0, u "[B"), (0, .fieldref 10 16), (0, .nameAndType 17 18), (0, u "coder"), (0, u "B"), (2, u "hash"), (0, u "I"), (2, u "hashIsZero"), (0, u "Z"), (11, .fieldref 10 39), (0, .nameAndType 40 26), (0, u "COMPACT_STRINGS"), (12, u "toBytes"), (53, .class_ 109), (1, u "java/lang/StringLatin1"), (99, .methodref 10 210), (0, .nameAndType 5 211), (0, u "([BB)V"), (157, u "(C)Z"), (173, u "equals"), (29, u "(Ljava/lang/Object;)Z"), (1, .class_ 576), (0, u "java/lang/CharSequence"), (22, u "CASE_INSENSITIVE_ORDER"), (0, u "Ljava/util/Comparator;"), (181, u "valueOf"), (0, u "(C)Ljava/lang/String;"), (231, .methodref 107 1016), (0, .nameAndType 1017 369), (0, u "canEncode"), (0, .methodref 107 1019), (0, .nameAndType 53 1020), (0, u "(C)[B"), (80, u "serialPersistentFields"), (0, u "[Ljava/io/ObjectStreamField;"), (0, .class_ 1104), (0, u "java/lang/String$CaseInsensitiveComparator"), (1, .class_ 1107), (0, u "java/io/Serializable"), (0, .class_ 1109), (0, u "java/lang/Comparable"), (0, .class_ 1111), (0, u "java/lang/constant/Constable"), (0, .class_ 1113), (0, u "java/lang/constant/ConstantDesc"), (2, u "serialVersionUID"), (0, u "J"), (3, u "REPL"), (0, u "C"), (2, u "LATIN1"), (1, u "UTF16")] 323

def k7m0 : Method := { name := "<init>", desc := "()V", sig := { parameters := [], returnType := none }, accessFlags := 1, code := none }
def k7c1 : Code := { maxStack := 2, maxLocals := 3, code := jdk_42_method_66_code, exceptionTable := #[], attributes := #[] }
def k7m1 : Method := { name := "equals", desc := "(Ljava/lang/Object;)Z", sig := { parameters := [(.object "java/lang/Object")], returnType := some .boolean }, accessFlags := 1, code := some k7c1 }
def k7c2 : Code := { maxStack := 4, maxLocals := 1, code := jdk_42_method_139_code, exceptionTable := #[], attributes := #[] }
def k7m2 : Method := { name := "valueOf", desc := "(C)Ljava/lang/String;", sig := { parameters := [.char], returnType := some (.object "java/lang/String") }, accessFlags := 9, code := some k7c2 }
def k7c3 : Code := { maxStack := 2, maxLocals := 3, code := jdk_42_method_151_code, exceptionTable := #[], attributes := #[] }
def k7m3 : Method := { name := "<init>", desc := "([BB)V", sig := { parameters := [(.array .byte), .byte], returnType := none }, accessFlags := 0, code := some k7c3 }
/-- java/lang/String -/
def k7 : Class := { plain "java/lang/String" (some 0) with
  accessFlags := 49
  interfaces := #[2, 3, 4, 5, 6]
  cf := some (fileOf pool7 10 #[.nestMembers #[1103]] #[{ accessFlags := 1, nameIndex := 5, descriptorIndex := 6, attributes := #[] }, { accessFlags := 1, nameIndex := 543, descriptorIndex := 573, attributes := #[] }, { accessFlags := 9, nameIndex := 782, descriptorIndex := 783, attributes := #[] }, { accessFlags := 0, nameIndex := 5, descriptorIndex := 211, attributes := #[] }] 49 2 #[1106, 1108, 575, 1110, 1112] #[{ accessFlags := 18, nameIndex := 13, descriptorIndex := 14, attributes := #[] }, { accessFlags := 18, nameIndex := 17, descriptorIndex := 18, attributes := #[] }, { accessFlags := 2, nameIndex := 21, descriptorIndex := 22, attributes := #[] }, { accessFlags := 2, nameIndex := 25, descriptorIndex := 26, attributes := #[] }, { accessFlags := 26, nameIndex := 1116, descriptorIndex := 1117, attributes := #[] }, { accessFlags := 24, nameIndex := 40, descriptorIndex := 26, attributes := #[] }, { accessFlags := 26, nameIndex := 1101, descriptorIndex := 1102, attributes := #[] }, { accessFlags := 26, nameIndex := 1121, descriptorIndex := 1122, attributes := #[] }, { accessFlags := 25, nameIndex := 599, descriptorIndex := 600, attributes := #[] }, { accessFlags := 24, nameIndex := 1125, descriptorIndex := 18, attributes := #[] }, { accessFlags := 24, nameIndex := 1127, descriptorIndex := 18, attributes := #[] }])
  fields := #[{ name := "value", type := (.array .byte), accessFlags := 18, slot := 0, constantValue := 0 }, { name := "coder", type := .byte, accessFlags := 18, slot := 1, constantValue := 0 }, { name := "hash", type := .int, accessFlags := 2, slot := 2, constantValue := 0 }, { name := "hashIsZero", type := .boolean, accessFlags := 2, slot := 3, constantValue := 0 }, { name := "serialVersionUID", type := .long, accessFlags := 26, slot := 0, constantValue := 0 }, { name := "COMPACT_STRINGS", type := .boolean, accessFlags := 24, slot := 1, constantValue := 0 }, { name := "serialPersistentFields", type := (.array (.object "java/io/ObjectStreamField")), accessFlags := 26, slot := 2, constantValue := 0 }, { name := "REPL", type := .char, accessFlags := 26, slot := 3, constantValue := 0 }, { name := "CASE_INSENSITIVE_ORDER", type := (.object "java/util/Comparator"), accessFlags := 25, slot := 4, constantValue := 0 }, { name := "LATIN1", type := .byte, accessFlags := 24, slot := 5, constantValue := 0 }, { name := "UTF16", type := .byte, accessFlags := 24, slot := 6, constantValue := 0 }]
  methods := #[k7m0, k7m1, k7m2, k7m3]
  instanceTypes := #[(.array .byte), .byte, .int, .boolean]
  staticTypes := #[.long, .boolean, (.array (.object "java/io/ObjectStreamField")), .char, (.object "java/util/Comparator"), .byte, .byte]
  resolved := Array.replicate 1451 none
  statics := some 0 }

def pool8 : Array CpInfo := pool [(4, .class_ 6), (1, u "java/lang/Object"), (0, u "<init>"), (0, u "()V"), (5, .class_ 16), (1, u "java/lang/StringLatin1"), (73, u "canEncode"), (14, u "(C)Z"), (15, u "$assertionsDisabled"), (0, u "Z"), (98, .class_ 223), (1, u "java/lang/StringLatin1$LinesSpliterator"), (156, u "toBytes"), (1, u "(C)[B"), (7, .class_ 391), (0, u "java/lang/StringLatin1$CharsSpliterator")] 3

def k8m0 : Method := { name := "<init>", desc := "()V", sig := { parameters := [], returnType := none }, accessFlags := 0, code := none }
def k8c1 : Code := { maxStack := 2, maxLocals := 1, code := jdk_43_method_3_code, exceptionTable := #[], attributes := #[] }
def k8m1 : Method := { name := "canEncode", desc := "(C)Z", sig := { parameters := [.char], returnType := some .boolean }, accessFlags := 9, code := some k8c1 }
def k8c2 : Code := { maxStack := 4, maxLocals := 1, code := jdk_43_method_46_code, exceptionTable := #[], attributes := #[] }
def k8m2 : Method := { name := "toBytes", desc := "(C)[B", sig := { parameters := [.char], returnType := some (.array .byte) }, accessFlags := 9, code := some k8c2 }
/-- java/lang/StringLatin1 -/
def k8 : Class := { plain "java/lang/StringLatin1" (some 0) with
  accessFlags := 48
  interfaces := #[]
  cf := some (fileOf pool8 14 #[.nestMembers #[390, 221]] #[{ accessFlags := 0, nameIndex := 7, descriptorIndex := 8, attributes := #[] }, { accessFlags := 9, nameIndex := 90, descriptorIndex := 105, attributes := #[] }, { accessFlags := 9, nameIndex := 380, descriptorIndex := 382, attributes := #[] }] 48 4 #[] #[{ accessFlags := 4120, nameIndex := 121, descriptorIndex := 122, attributes := #[] }])
  fields := #[{ name := "$assertionsDisabled", type := .boolean, accessFlags := 4120, slot := 0, constantValue := 0 }]
  methods := #[k8m0, k8m1, k8m2]
  instanceTypes := #[]
  staticTypes := #[.boolean]
  resolved := Array.replicate 395 none
  statics := none }

def pool9 : Array CpInfo := pool [(1, .methodref 2 3), (0, .class_ 4), (0, .nameAndType 5 6), (0, u "java/lang/Object"), (0, u "<init>"), (0, u "()V"), (0, .class_ 8), (0, u "com/example/weser/weser/core/TripleTable"), (0, .fieldref 7 10), (0, .nameAndType 11 12), (0, u "subjects"), (0, u "[I"), (0, .fieldref 7 14), (0, .nameAndType 15 12), (0, u "predicates"), (0, .fieldref 7 17), (0, .nameAndType 18 12), (0, u "objects"), (0, .fieldref 7 20), (0, .nameAndType 21 12), (0, u "firstGraphs"), (0, .class_ 23), (0, u "java/util/LinkedHashSet"), (0, .methodref 22 3), (0, .fieldref 7 26), (0, .nameAndType 27 28), (0, u "otherGraphs"), (0, u "Ljava/util/Set;"), (0, .fieldref 7 30), (0, .nameAndType 31 12), (0, u "table"), (0, .methodref 7 33), (0, .nameAndType 34 35), (0, u "hash"), (0, u "(III)I"), (7, .class_ 45), (1, u "java/util/Set"), (0, u "add"), (1, .fieldref 7 49), (0, .nameAndType 50 51), (0, u "size"), (0, u "I"), (0, .methodref 53 54), (0, .class_ 55), (0, .nameAndType 56 57), (0, u "java/util/Arrays"), (0, u "copyOf"), (0, u "([II)[I"), (4, .interfaceMethodref 43 63), (0, .nameAndType 50 64), (0, u "()I"), (0, .interfaceMethodref 43 66), (0, .nameAndType 67 68), (0, u "iterator"), (0, u "()Ljava/util/Iterator;"), (0, .interfaceMethodref 70 71), (0, .class_ 72), (0, .nameAndType 73 74), (0, u "java/util/Iterator"), (0, u "hasNext"), (0, u "()Z"), (8, .class_ 84), (0, u "com/example/weser/weser/core/Memberships"), (0, .methodref 83 86), (0, .nameAndType 5 87), (0, u "([I[I)V"), (0, .integer 2654435769), (0, .integer 2146121005), (0, .integer 2221713035), (0, u "INITIAL_SIZE"), (6, u "(IIII)V"), (1, u "()[I"), (0, u "memberships"), (0, u "()Lcom/example/weser/weser/core/Memberships;")] 3

def k9c0 : Code := { maxStack := 3, maxLocals := 1, code := prog_37_method_1_code, exceptionTable := #[], attributes := #[] }
def k9m0 : Method := { name := "<init>", desc := "()V", sig := { parameters := [], returnType := none }, accessFlags := 0, code := some k9c0 }
def k9c1 : Code := { maxStack := 5, maxLocals := 8, code := prog_37_method_2_code, exceptionTable := #[], attributes := #[] }
def k9m1 : Method := { name := "add", desc := "(IIII)V", sig := { parameters := [.int, .int, .int, .int], returnType := none }, accessFlags := 0, code := some k9c1 }
def k9c2 : Code := { maxStack := 2, maxLocals := 1, code := prog_37_method_3_code, exceptionTable := #[], attributes := #[] }
def k9m2 : Method := { name := "subjects", desc := "()[I", sig := { parameters := [], returnType := some (.array .int) }, accessFlags := 0, code := some k9c2 }
def k9c3 : Code := { maxStack := 2, maxLocals := 1, code := prog_37_method_4_code, exceptionTable := #[], attributes := #[] }
def k9m3 : Method := { name := "predicates", desc := "()[I", sig := { parameters := [], returnType := some (.array .int) }, accessFlags := 0, code := some k9c3 }
def k9c4 : Code := { maxStack := 2, maxLocals := 1, code := prog_37_method_5_code, exceptionTable := #[], attributes := #[] }
def k9m4 : Method := { name := "objects", desc := "()[I", sig := { parameters := [], returnType := some (.array .int) }, accessFlags := 0, code := some k9c4 }
def k9c5 : Code := { maxStack := 5, maxLocals := 8, code := prog_37_method_6_code, exceptionTable := #[], attributes := #[] }
def k9m5 : Method := { name := "memberships", desc := "()Lcom/example/weser/weser/core/Memberships;", sig := { parameters := [], returnType := some (.object "com/example/weser/weser/core/Memberships") }, accessFlags := 0, code := some k9c5 }
def k9c6 : Code := { maxStack := 3, maxLocals := 4, code := prog_37_method_8_code, exceptionTable := #[], attributes := #[] }
def k9m6 : Method := { name := "hash", desc := "(III)I", sig := { parameters := [.int, .int, .int], returnType := some .int }, accessFlags := 10, code := some k9c6 }
/-- com/example/weser/weser/core/TripleTable -/
def k9 : Class := { plain "com/example/weser/weser/core/TripleTable" (some 0) with
  accessFlags := 48
  interfaces := #[]
  cf := some (fileOf pool9 7 #[] #[{ accessFlags := 0, nameIndex := 5, descriptorIndex := 6, attributes := #[] }, { accessFlags := 0, nameIndex := 46, descriptorIndex := 98, attributes := #[] }, { accessFlags := 0, nameIndex := 11, descriptorIndex := 100, attributes := #[] }, { accessFlags := 0, nameIndex := 15, descriptorIndex := 100, attributes := #[] }, { accessFlags := 0, nameIndex := 18, descriptorIndex := 100, attributes := #[] }, { accessFlags := 0, nameIndex := 101, descriptorIndex := 102, attributes := #[] }, { accessFlags := 10, nameIndex := 34, descriptorIndex := 35, attributes := #[] }] 48 2 #[] #[{ accessFlags := 26, nameIndex := 91, descriptorIndex := 51, attributes := #[] }, { accessFlags := 2, nameIndex := 11, descriptorIndex := 12, attributes := #[] }, { accessFlags := 2, nameIndex := 15, descriptorIndex := 12, attributes := #[] }, { accessFlags := 2, nameIndex := 18, descriptorIndex := 12, attributes := #[] }, { accessFlags := 2, nameIndex := 21, descriptorIndex := 12, attributes := #[] }, { accessFlags := 18, nameIndex := 27, descriptorIndex := 28, attributes := #[] }, { accessFlags := 2, nameIndex := 50, descriptorIndex := 51, attributes := #[] }, { accessFlags := 2, nameIndex := 31, descriptorIndex := 12, attributes := #[] }])
  fields := #[{ name := "INITIAL_SIZE", type := .int, accessFlags := 26, slot := 0, constantValue := 0 }, { name := "subjects", type := (.array .int), accessFlags := 2, slot := 0, constantValue := 0 }, { name := "predicates", type := (.array .int), accessFlags := 2, slot := 1, constantValue := 0 }, { name := "objects", type := (.array .int), accessFlags := 2, slot := 2, constantValue := 0 }, { name := "firstGraphs", type := (.array .int), accessFlags := 2, slot := 3, constantValue := 0 }, { name := "otherGraphs", type := (.object "java/util/Set"), accessFlags := 18, slot := 4, constantValue := 0 }, { name := "size", type := .int, accessFlags := 2, slot := 5, constantValue := 0 }, { name := "table", type := (.array .int), accessFlags := 2, slot := 6, constantValue := 0 }]
  methods := #[k9m0, k9m1, k9m2, k9m3, k9m4, k9m5, k9m6]
  instanceTypes := #[(.array .int), (.array .int), (.array .int), (.array .int), (.object "java/util/Set"), .int, (.array .int)]
  staticTypes := #[.int]
  resolved := Array.replicate 106 none
  statics := none }

def pool10 : Array CpInfo := pool [(8, .class_ 10), (1, u "java/lang/Iterable"), (24, .class_ 36), (0, u "java/lang/Object")] 25

/-- java/lang/Iterable -/
def k10 : Class := { plain "java/lang/Iterable" (some 0) with
  accessFlags := 1537
  interfaces := #[]
  cf := some (fileOf pool10 8 #[] #[] 1537 35 #[] #[])
  fields := #[]
  methods := #[]
  instanceTypes := #[]
  staticTypes := #[]
  resolved := Array.replicate 62 none
  statics := none }

def pool11 : Array CpInfo := pool [(10, .class_ 12), (1, u "java/util/Collection"), (47, .class_ 61), (0, u "java/lang/Object"), (0, .class_ 63), (0, u "java/lang/Iterable")] 51

/-- java/util/Collection -/
def k11 : Class := { plain "java/util/Collection" (some 0) with
  accessFlags := 1537
  interfaces := #[10]
  cf := some (fileOf pool11 10 #[] #[] 1537 60 #[62] #[])
  fields := #[]
  methods := #[]
  instanceTypes := #[]
  staticTypes := #[]
  resolved := Array.replicate 115 none
  statics := none }

def pool12 : Array CpInfo := pool [(1, .methodref 2 3), (0, .class_ 4), (0, .nameAndType 5 6), (0, u "java/lang/Object"), (0, u "<init>"), (0, u "()V"), (1, .class_ 10), (1, u "java/util/AbstractCollection"), (66, .class_ 78), (0, u "java/util/Collection")] 81

def k12c0 : Code := { maxStack := 1, maxLocals := 1, code := jdk_22_method_1_code, exceptionTable := #[], attributes := #[] }
def k12m0 : Method := { name := "<init>", desc := "()V", sig := { parameters := [], returnType := none }, accessFlags := 4, code := some k12c0 }
/-- java/util/AbstractCollection -/
def k12 : Class := { plain "java/util/AbstractCollection" (some 0) with
  accessFlags := 1057
  interfaces := #[11]
  cf := some (fileOf pool12 8 #[] #[{ accessFlags := 4, nameIndex := 5, descriptorIndex := 6, attributes := #[] }] 1057 2 #[77] #[])
  fields := #[]
  methods := #[k12m0]
  instanceTypes := #[]
  staticTypes := #[]
  resolved := Array.replicate 160 none
  statics := none }

def pool13 : Array CpInfo := pool [(26, .class_ 27), (0, u "java/lang/Object"), (5, .class_ 34), (0, u "java/util/Set"), (1, .class_ 38), (1, u "java/util/Collection"), (18, u "size"), (0, u "()I"), (2, u "iterator"), (0, u "()Ljava/util/Iterator;")] 81

def k13m0 : Method := { name := "size", desc := "()I", sig := { parameters := [], returnType := some .int }, accessFlags := 1025, code := none }
def k13m1 : Method := { name := "iterator", desc := "()Ljava/util/Iterator;", sig := { parameters := [], returnType := some (.object "java/util/Iterator") }, accessFlags := 1025, code := none }
/-- java/util/Set -/
def k13 : Class := { plain "java/util/Set" (some 0) with
  accessFlags := 1537
  interfaces := #[11]
  cf := some (fileOf pool13 33 #[] #[{ accessFlags := 1025, nameIndex := 57, descriptorIndex := 58, attributes := #[] }, { accessFlags := 1025, nameIndex := 61, descriptorIndex := 62, attributes := #[] }] 1537 26 #[36] #[])
  fields := #[]
  methods := #[k13m0, k13m1]
  instanceTypes := #[]
  staticTypes := #[]
  resolved := Array.replicate 144 none
  statics := none }

def pool14 : Array CpInfo := pool [(1, .methodref 2 3), (0, .class_ 4), (0, .nameAndType 5 6), (0, u "java/util/AbstractCollection"), (0, u "<init>"), (0, u "()V"), (0, .class_ 8), (0, u "java/util/Set"), (7, .class_ 17), (0, u "java/util/AbstractSet")] 78

def k14c0 : Code := { maxStack := 1, maxLocals := 1, code := jdk_91_method_1_code, exceptionTable := #[], attributes := #[] }
def k14m0 : Method := { name := "<init>", desc := "()V", sig := { parameters := [], returnType := none }, accessFlags := 4, code := some k14c0 }
/-- java/util/AbstractSet -/
def k14 : Class := { plain "java/util/AbstractSet" (some 12) with
  accessFlags := 1057
  interfaces := #[13]
  cf := some (fileOf pool14 16 #[] #[{ accessFlags := 4, nameIndex := 5, descriptorIndex := 6, attributes := #[] }] 1057 2 #[7] #[])
  fields := #[]
  methods := #[k14m0]
  instanceTypes := #[]
  staticTypes := #[]
  resolved := Array.replicate 96 none
  statics := none }

def pool15 : Array CpInfo := pool [(1, .class_ 2), (0, u "java/lang/Cloneable"), (0, .class_ 4), (0, u "java/lang/Object")] 2

/-- java/lang/Cloneable -/
def k15 : Class := { plain "java/lang/Cloneable" (some 0) with
  accessFlags := 1537
  interfaces := #[]
  cf := some (fileOf pool15 1 #[] #[] 1537 3 #[] #[])
  fields := #[]
  methods := #[]
  instanceTypes := #[]
  staticTypes := #[]
  resolved := Array.replicate 7 none
  statics := none }

def pool16 : Array CpInfo := pool [(1, .methodref 2 3), (0, .class_ 4), (0, .nameAndType 5 6), (0, u "java/util/AbstractSet"), (0, u "<init>"), (0, u "()V"), (0, .class_ 8), (0, u "java/util/HashMap"), (1, .fieldref 11 12), (0, .class_ 13), (0, .nameAndType 14 15), (0, u "java/util/HashSet"), (0, u "map"), (0, u "Ljava/util/HashMap;"), (2, .nameAndType 20 21), (1, u "size"), (0, u "()I"), (15, .nameAndType 5 38), (0, u "(IF)V"), (3, .class_ 43), (0, u "java/util/LinkedHashMap"), (0, .methodref 42 37), (0, .methodref 7 46), (0, .nameAndType 47 48), (0, u "keySet"), (0, u "()Ljava/util/Set;"), (0, .interfaceMethodref 50 51), (0, .class_ 52), (0, .nameAndType 53 54), (0, u "java/util/Set"), (0, u "iterator"), (0, u "()Ljava/util/Iterator;"), (0, .methodref 7 18), (10, u "PRESENT"), (0, u "Ljava/lang/Object;"), (158, .class_ 227), (0, u "java/lang/Cloneable"), (0, .class_ 229), (0, u "java/io/Serializable"), (0, u "serialVersionUID"), (0, u "J"), (20, u "(IFZ)V")] 50

def k16m0 : Method := { name := "<init>", desc := "()V", sig := { parameters := [], returnType := none }, accessFlags := 1, code := none }
def k16c1 : Code := { maxStack := 5, maxLocals := 4, code := jdk_93_method_5_code, exceptionTable := #[], attributes := #[] }
def k16m1 : Method := { name := "<init>", desc := "(IFZ)V", sig := { parameters := [.int, .float, .boolean], returnType := none }, accessFlags := 0, code := some k16c1 }
def k16c2 : Code := { maxStack := 1, maxLocals := 1, code := jdk_93_method_6_code, exceptionTable := #[], attributes := #[] }
def k16m2 : Method := { name := "iterator", desc := "()Ljava/util/Iterator;", sig := { parameters := [], returnType := some (.object "java/util/Iterator") }, accessFlags := 1, code := some k16c2 }
def k16c3 : Code := { maxStack := 1, maxLocals := 1, code := jdk_93_method_7_code, exceptionTable := #[], attributes := #[] }
def k16m3 : Method := { name := "size", desc := "()I", sig := { parameters := [], returnType := some .int }, accessFlags := 1, code := some k16c3 }
/-- java/util/HashSet -/
def k16 : Class := { plain "java/util/HashSet" (some 14) with
  accessFlags := 33
  interfaces := #[13, 15, 2]
  cf := some (fileOf pool16 11 #[] #[{ accessFlags := 1, nameIndex := 5, descriptorIndex := 6, attributes := #[] }, { accessFlags := 0, nameIndex := 5, descriptorIndex := 252, attributes := #[] }, { accessFlags := 1, nameIndex := 53, descriptorIndex := 54, attributes := #[] }, { accessFlags := 1, nameIndex := 20, descriptorIndex := 21, attributes := #[] }] 33 2 #[50, 226, 228] #[{ accessFlags := 24, nameIndex := 230, descriptorIndex := 231, attributes := #[] }, { accessFlags := 128, nameIndex := 14, descriptorIndex := 15, attributes := #[] }, { accessFlags := 24, nameIndex := 66, descriptorIndex := 67, attributes := #[] }])
  fields := #[{ name := "serialVersionUID", type := .long, accessFlags := 24, slot := 0, constantValue := 0 }, { name := "map", type := (.object "java/util/HashMap"), accessFlags := 128, slot := 0, constantValue := 0 }, { name := "PRESENT", type := (.object "java/lang/Object"), accessFlags := 24, slot := 1, constantValue := 0 }]
  methods := #[k16m0, k16m1, k16m2, k16m3]
  instanceTypes := #[(.object "java/util/HashMap")]
  staticTypes := #[.long, (.object "java/lang/Object")]
  resolved := Array.replicate 303 none
  statics := none }

def pool17 : Array CpInfo := pool [(8, .class_ 10), (1, u "java/util/SequencedCollection"), (15, .class_ 27), (0, u "java/lang/Object"), (0, .class_ 29), (0, u "java/util/Collection")] 27

/-- java/util/SequencedCollection -/
def k17 : Class := { plain "java/util/SequencedCollection" (some 0) with
  accessFlags := 1537
  interfaces := #[11]
  cf := some (fileOf pool17 8 #[] #[] 1537 26 #[28] #[])
  fields := #[]
  methods := #[]
  instanceTypes := #[]
  staticTypes := #[]
  resolved := Array.replicate 57 none
  statics := none }

def pool18 : Array CpInfo := pool [(2, .class_ 4), (1, u "java/util/SequencedSet"), (2, .class_ 8), (0, u "java/lang/Object"), (0, .class_ 10), (0, u "java/util/SequencedCollection"), (0, .class_ 12), (0, u "java/util/Set")] 13

/-- java/util/SequencedSet -/
def k18 : Class := { plain "java/util/SequencedSet" (some 0) with
  accessFlags := 1537
  interfaces := #[17, 13]
  cf := some (fileOf pool18 2 #[] #[] 1537 7 #[9, 11] #[])
  fields := #[]
  methods := #[]
  instanceTypes := #[]
  staticTypes := #[]
  resolved := Array.replicate 26 none
  statics := none }

def pool19 : Array CpInfo := pool [(1, .methodref 2 3), (0, .class_ 4), (0, .nameAndType 5 6), (0, u "java/util/HashSet"), (0, u "<init>"), (0, u "(IFZ)V"), (0, .float 1061158912), (19, .class_ 29), (1, u "java/util/LinkedHashSet"), (16, u "()V"), (44, .class_ 93), (1, u "java/util/SequencedSet"), (11, .class_ 106), (0, u "java/util/LinkedHashSet$1ReverseLinkedHashSetView"), (6, .class_ 114), (0, u "java/lang/Cloneable"), (0, .class_ 116), (0, u "java/io/Serializable"), (0, u "serialVersionUID"), (0, u "J")] 44

def k19c0 : Code := { maxStack := 4, maxLocals := 1, code := jdk_2620_method_3_code, exceptionTable := #[], attributes := #[] }
def k19m0 : Method := { name := "<init>", desc := "()V", sig := { parameters := [], returnType := none }, accessFlags := 1, code := some k19c0 }
/-- java/util/LinkedHashSet -/
def k19 : Class := { plain "java/util/LinkedHashSet" (some 16) with
  accessFlags := 33
  interfaces := #[18, 15, 2]
  cf := some (fileOf pool19 27 #[.nestMembers #[105]] #[{ accessFlags := 1, nameIndex := 5, descriptorIndex := 46, attributes := #[] }] 33 2 #[91, 113, 115] #[{ accessFlags := 26, nameIndex := 117, descriptorIndex := 118, attributes := #[] }])
  fields := #[{ name := "serialVersionUID", type := .long, accessFlags := 26, slot := 0, constantValue := 0 }]
  methods := #[k19m0]
  instanceTypes := #[(.object "java/util/HashMap")]
  staticTypes := #[.long]
  resolved := Array.replicate 163 none
  statics := none }

def pool20 : Array CpInfo := pool [(2, .class_ 4), (1, u "java/util/Map"), (31, .class_ 37), (0, u "java/util/Map$Entry"), (55, .class_ 94), (0, u "java/lang/Object")] 168

/-- java/util/Map -/
def k20 : Class := { plain "java/util/Map" (some 0) with
  accessFlags := 1537
  interfaces := #[]
  cf := some (fileOf pool20 2 #[.nestMembers #[36]] #[] 1537 93 #[] #[])
  fields := #[]
  methods := #[]
  instanceTypes := #[]
  staticTypes := #[]
  resolved := Array.replicate 263 none
  statics := none }

def pool21 : Array CpInfo := pool [(1, .methodref 2 3), (0, .class_ 4), (0, .nameAndType 5 6), (0, u "java/lang/Object"), (0, u "<init>"), (0, u "()V"), (1, .class_ 10), (1, u "java/util/AbstractMap"), (42, .class_ 54), (0, u "java/util/Map"), (9, u "keySet"), (0, u "Ljava/util/Set;"), (0, .class_ 67), (0, u "java/util/AbstractMap$1"), (5, u "values"), (0, u "Ljava/util/Collection;"), (0, .class_ 76), (0, u "java/util/AbstractMap$2"), (104, .class_ 182), (0, u "java/util/AbstractMap$ViewCollection"), (0, .class_ 184), (0, u "java/util/AbstractMap$SimpleImmutableEntry"), (0, .class_ 186), (0, u "java/util/AbstractMap$SimpleEntry"), (0, .class_ 188), (0, u "java/util/AbstractMap$2$1"), (0, .class_ 190), (0, u "java/util/AbstractMap$1$1")] 5

def k21c0 : Code := { maxStack := 1, maxLocals := 1, code := jdk_71_method_1_code, exceptionTable := #[], attributes := #[] }
def k21m0 : Method := { name := "<init>", desc := "()V", sig := { parameters := [], returnType := none }, accessFlags := 4, code := some k21c0 }
/-- java/util/AbstractMap -/
def k21 : Class := { plain "java/util/AbstractMap" (some 0) with
  accessFlags := 1057
  interfaces := #[20]
  cf := some (fileOf pool21 8 #[.nestMembers #[181, 183, 185, 75, 187, 66, 189]] #[{ accessFlags := 4, nameIndex := 5, descriptorIndex := 6, attributes := #[] }] 1057 2 #[53] #[{ accessFlags := 128, nameIndex := 64, descriptorIndex := 65, attributes := #[] }, { accessFlags := 128, nameIndex := 73, descriptorIndex := 74, attributes := #[] }])
  fields := #[{ name := "keySet", type := (.object "java/util/Set"), accessFlags := 128, slot := 0, constantValue := 0 }, { name := "values", type := (.object "java/util/Collection"), accessFlags := 128, slot := 1, constantValue := 0 }]
  methods := #[k21m0]
  instanceTypes := #[(.object "java/util/Set"), (.object "java/util/Collection")]
  staticTypes := #[]
  resolved := Array.replicate 196 none
  statics := none }

def pool22 : Array CpInfo := pool [(6, u "()I"), (27, .methodref 35 36), (0, .class_ 37), (0, .nameAndType 38 39), (0, u "java/lang/Integer"), (0, u "numberOfLeadingZeros"), (0, u "(I)I"), (0, .class_ 41), (0, u "java/util/HashMap"), (0, .integer 1073741824), (0, .methodref 44 45), (0, .class_ 46), (0, .nameAndType 47 48), (0, u "java/util/AbstractMap"), (0, u "<init>"), (0, u "()V"), (21, .methodref 71 72), (0, .class_ 73), (0, .nameAndType 74 75), (0, u "java/lang/Float"), (0, u "isNaN"), (0, u "(F)Z"), (5, .fieldref 40 82), (0, .nameAndType 83 84), (0, u "loadFactor"), (0, u "F"), (0, .methodref 40 86), (0, .nameAndType 87 39), (0, u "tableSizeFor"), (0, .fieldref 40 89), (0, .nameAndType 90 91), (0, u "threshold"), (0, u "I"), (0, .float 1061158912), (2, u "(IF)V"), (5, .class_ 103), (1, u "java/util/Map"), (0, u "size"), (2, u "table"), (0, u "[Ljava/util/HashMap$Node;"), (14, u "entrySet"), (0, u "()Ljava/util/Set;"), (31, .fieldref 40 157), (0, .nameAndType 104 91), (5, .class_ 165), (1, u "java/util/HashMap$Node"), (14, .class_ 181), (0, u "java/util/HashMap$TreeNode"), (22, u "modCount"), (36, u "keySet"), (0, u "Ljava/util/Set;"), (0, .class_ 244), (0, u "java/util/HashMap$KeySet"), (18, .class_ 264), (0, u "java/util/HashMap$Values"), (3, .class_ 269), (0, u "java/util/HashMap$EntrySet"), (76, .class_ 348), (1, u "java/util/HashMap$UnsafeHolder"), (43, .class_ 393), (0, u "java/lang/Cloneable"), (0, .class_ 395), (0, u "java/io/Serializable"), (0, u "serialVersionUID"), (0, u "J"), (3, u "DEFAULT_INITIAL_CAPACITY"), (1, u "MAXIMUM_CAPACITY"), (0, u "DEFAULT_LOAD_FACTOR"), (0, u "TREEIFY_THRESHOLD"), (1, u "UNTREEIFY_THRESHOLD"), (1, u "MIN_TREEIFY_CAPACITY"), (186, .class_ 597), (0, u "java/util/HashMap$EntrySpliterator"), (0, .class_ 599), (0, u "java/util/HashMap$ValueSpliterator"), (0, .class_ 601), (0, u "java/util/HashMap$KeySpliterator"), (0, .class_ 603), (0, u "java/util/HashMap$HashMapSpliterator"), (0, .class_ 605), (0, u "java/util/HashMap$EntryIterator"), (0, .class_ 607), (0, u "java/util/HashMap$ValueIterator"), (0, .class_ 609), (0, u "java/util/HashMap$KeyIterator"), (0, .class_ 611), (0, u "java/util/HashMap$HashIterator")] 17

def k22c0 : Code := { maxStack := 3, maxLocals := 2, code := jdk_69_method_4_code, exceptionTable := #[], attributes := #[] }
def k22m0 : Method := { name := "tableSizeFor", desc := "(I)I", sig := { parameters := [.int], returnType := some .int }, accessFlags := 24, code := some k22c0 }
def k22c1 : Code := { maxStack := 4, maxLocals := 3, code := jdk_69_method_5_code, exceptionTable := #[], attributes := #[] }
def k22m1 : Method := { name := "<init>", desc := "(IF)V", sig := { parameters := [.int, .float], returnType := none }, accessFlags := 1, code := some k22c1 }
def k22c2 : Code := { maxStack := 2, maxLocals := 1, code := jdk_69_method_7_code, exceptionTable := #[], attributes := #[] }
def k22m2 : Method := { name := "<init>", desc := "()V", sig := { parameters := [], returnType := none }, accessFlags := 1, code := some k22c2 }
def k22c3 : Code := { maxStack := 1, maxLocals := 1, code := jdk_69_method_10_code, exceptionTable := #[], attributes := #[] }
def k22m3 : Method := { name := "size", desc := "()I", sig := { parameters := [], returnType := some .int }, accessFlags := 1, code := some k22c3 }
def k22c4 : Code := { maxStack := 3, maxLocals := 2, code := ⟨#[0x01, 0xb0]⟩, exceptionTable := #[], attributes := #[] }
def k22m4 : Method := { name := "keySet", desc := "()Ljava/util/Set;", sig := { parameters := [], returnType := some (.object "java/util/Set") }, accessFlags := 1, code := some k22c4 }
/-- java/util/HashMap -/
def k22 : Class := { plain "java/util/HashMap" (some 21) with
  accessFlags := 33
  interfaces := #[20, 15, 2]
  cf := some (fileOf pool22 40 #[.nestMembers #[180, 596, 598, 600, 602, 604, 606, 608, 610, 346, 268, 263, 243, 163]] #[{ accessFlags := 24, nameIndex := 87, descriptorIndex := 39, attributes := #[] }, { accessFlags := 1, nameIndex := 47, descriptorIndex := 95, attributes := #[] }, { accessFlags := 1, nameIndex := 47, descriptorIndex := 48, attributes := #[] }, { accessFlags := 1, nameIndex := 104, descriptorIndex := 6, attributes := #[] }, { accessFlags := 1, nameIndex := 241, descriptorIndex := 124, attributes := #[] }] 33 44 #[101, 392, 394] #[{ accessFlags := 26, nameIndex := 396, descriptorIndex := 397, attributes := #[] }, { accessFlags := 24, nameIndex := 401, descriptorIndex := 91, attributes := #[] }, { accessFlags := 24, nameIndex := 403, descriptorIndex := 91, attributes := #[] }, { accessFlags := 24, nameIndex := 404, descriptorIndex := 84, attributes := #[] }, { accessFlags := 24, nameIndex := 405, descriptorIndex := 91, attributes := #[] }, { accessFlags := 24, nameIndex := 407, descriptorIndex := 91, attributes := #[] }, { accessFlags := 24, nameIndex := 409, descriptorIndex := 91, attributes := #[] }, { accessFlags := 128, nameIndex := 107, descriptorIndex := 108, attributes := #[] }, { accessFlags := 128, nameIndex := 123, descriptorIndex := 242, attributes := #[] }, { accessFlags := 128, nameIndex := 104, descriptorIndex := 91, attributes := #[] }, { accessFlags := 128, nameIndex := 204, descriptorIndex := 91, attributes := #[] }, { accessFlags := 0, nameIndex := 90, descriptorIndex := 91, attributes := #[] }, { accessFlags := 16, nameIndex := 83, descriptorIndex := 84, attributes := #[] }])
  fields := #[{ name := "serialVersionUID", type := .long, accessFlags := 26, slot := 0, constantValue := 0 }, { name := "DEFAULT_INITIAL_CAPACITY", type := .int, accessFlags := 24, slot := 1, constantValue := 0 }, { name := "MAXIMUM_CAPACITY", type := .int, accessFlags := 24, slot := 2, constantValue := 0 }, { name := "DEFAULT_LOAD_FACTOR", type := .float, accessFlags := 24, slot := 3, constantValue := 0 }, { name := "TREEIFY_THRESHOLD", type := .int, accessFlags := 24, slot := 4, constantValue := 0 }, { name := "UNTREEIFY_THRESHOLD", type := .int, accessFlags := 24, slot := 5, constantValue := 0 }, { name := "MIN_TREEIFY_CAPACITY", type := .int, accessFlags := 24, slot := 6, constantValue := 0 }, { name := "table", type := (.array (.object "java/util/HashMap$Node")), accessFlags := 128, slot := 2, constantValue := 0 }, { name := "entrySet", type := (.object "java/util/Set"), accessFlags := 128, slot := 3, constantValue := 0 }, { name := "size", type := .int, accessFlags := 128, slot := 4, constantValue := 0 }, { name := "modCount", type := .int, accessFlags := 128, slot := 5, constantValue := 0 }, { name := "threshold", type := .int, accessFlags := 0, slot := 6, constantValue := 0 }, { name := "loadFactor", type := .float, accessFlags := 16, slot := 7, constantValue := 0 }]
  methods := #[k22m0, k22m1, k22m2, k22m3, k22m4]
  instanceTypes := #[(.object "java/util/Set"), (.object "java/util/Collection"), (.array (.object "java/util/HashMap$Node")), (.object "java/util/Set"), .int, .int, .int, .float]
  staticTypes := #[.long, .int, .int, .float, .int, .int, .int]
  resolved := Array.replicate 629 none
  statics := none }

def pool23 : Array CpInfo := pool [(2, .class_ 4), (1, u "java/util/SequencedMap"), (38, .class_ 44), (0, u "java/util/SequencedMap$1SeqKeySet"), (3, .class_ 49), (0, u "java/util/SequencedMap$1SeqValues"), (1, .class_ 52), (0, u "java/util/SequencedMap$1SeqEntrySet"), (1, .class_ 55), (0, u "java/lang/Object"), (0, .class_ 57), (0, u "java/util/Map")] 48

/-- java/util/SequencedMap -/
def k23 : Class := { plain "java/util/SequencedMap" (some 0) with
  accessFlags := 1537
  interfaces := #[20]
  cf := some (fileOf pool23 2 #[.nestMembers #[51, 48, 43]] #[] 1537 54 #[56] #[])
  fields := #[]
  methods := #[]
  instanceTypes := #[]
  staticTypes := #[]
  resolved := Array.replicate 106 none
  statics := none }

def pool24 : Array CpInfo := pool [(1, .fieldref 2 3), (0, .class_ 4), (0, .nameAndType 5 6), (0, u "java/util/LinkedHashMap"), (0, u "putMode"), (0, u "I"), (2, u "head"), (0, u "Ljava/util/LinkedHashMap$Entry;"), (2, u "tail"), (1, .class_ 17), (1, u "java/util/LinkedHashMap$Entry"), (5, .class_ 25), (1, u "java/util/HashMap"), (1, u "()V"), (2, u "<init>"), (33, .fieldref 2 65), (0, .nameAndType 66 67), (0, u "accessOrder"), (0, u "Z"), (13, .methodref 23 82), (0, .nameAndType 30 83), (0, u "(IF)V"), (3, .methodref 23 88), (0, .nameAndType 30 27), (24, .methodref 2 114), (0, .nameAndType 115 116), (0, u "sequencedKeySet"), (0, u "()Ljava/util/SequencedSet;"), (0, .fieldref 2 118), (0, .nameAndType 119 120), (0, u "keySet"), (0, u "Ljava/util/Set;"), (0, .class_ 122), (0, u "java/util/LinkedHashMap$LinkedKeySet"), (0, .methodref 121 124), (0, .nameAndType 30 125), (0, u "(Ljava/util/LinkedHashMap;Z)V"), (17, .class_ 144), (0, u "java/util/LinkedHashMap$LinkedValues"), (9, .class_ 155), (0, u "java/util/LinkedHashMap$LinkedEntrySet"), (44, .class_ 201), (0, u "java/util/LinkedHashMap$ReversedLinkedHashMapView"), (3, .class_ 206), (0, u "java/util/SequencedMap"), (0, u "serialVersionUID"), (0, u "J"), (5, u "PUT_NORM"), (1, u "PUT_FIRST"), (1, u "PUT_LAST"), (79, u "()Ljava/util/Set;"), (63, .class_ 363), (0, u "java/util/LinkedHashMap$LinkedEntryIterator"), (0, .class_ 365), (0, u "java/util/LinkedHashMap$LinkedValueIterator"), (0, .class_ 367), (0, u "java/util/LinkedHashMap$LinkedKeyIterator"), (0, .class_ 369), (0, u "java/util/LinkedHashMap$LinkedHashIterator")] 16

def k24c0 : Code := { maxStack := 3, maxLocals := 3, code := jdk_94_method_14_code, exceptionTable := #[], attributes := #[] }
def k24m0 : Method := { name := "<init>", desc := "(IF)V", sig := { parameters := [.int, .float], returnType := none }, accessFlags := 1, code := some k24c0 }
def k24c1 : Code := { maxStack := 2, maxLocals := 1, code := jdk_94_method_16_code, exceptionTable := #[], attributes := #[] }
def k24m1 : Method := { name := "<init>", desc := "()V", sig := { parameters := [], returnType := none }, accessFlags := 1, code := some k24c1 }
def k24c2 : Code := { maxStack := 1, maxLocals := 1, code := jdk_94_method_24_code, exceptionTable := #[], attributes := #[] }
def k24m2 : Method := { name := "keySet", desc := "()Ljava/util/Set;", sig := { parameters := [], returnType := some (.object "java/util/Set") }, accessFlags := 1, code := some k24c2 }
def k24c3 : Code := { maxStack := 4, maxLocals := 3, code := jdk_94_method_25_code, exceptionTable := #[], attributes := #[] }
def k24m3 : Method := { name := "sequencedKeySet", desc := "()Ljava/util/SequencedSet;", sig := { parameters := [], returnType := some (.object "java/util/SequencedSet") }, accessFlags := 1, code := some k24c3 }
/-- java/util/LinkedHashMap -/
def k24 : Class := { plain "java/util/LinkedHashMap" (some 22) with
  accessFlags := 33
  interfaces := #[23]
  cf := some (fileOf pool24 2 #[.nestMembers #[200, 362, 364, 366, 368, 154, 143, 121, 15]] #[{ accessFlags := 1, nameIndex := 30, descriptorIndex := 83, attributes := #[] }, { accessFlags := 1, nameIndex := 30, descriptorIndex := 27, attributes := #[] }, { accessFlags := 1, nameIndex := 119, descriptorIndex := 298, attributes := #[] }, { accessFlags := 1, nameIndex := 115, descriptorIndex := 116, attributes := #[] }] 33 23 #[205] #[{ accessFlags := 26, nameIndex := 207, descriptorIndex := 208, attributes := #[] }, { accessFlags := 128, nameIndex := 9, descriptorIndex := 10, attributes := #[] }, { accessFlags := 128, nameIndex := 13, descriptorIndex := 10, attributes := #[] }, { accessFlags := 16, nameIndex := 66, descriptorIndex := 67, attributes := #[] }, { accessFlags := 24, nameIndex := 214, descriptorIndex := 6, attributes := #[] }, { accessFlags := 24, nameIndex := 216, descriptorIndex := 6, attributes := #[] }, { accessFlags := 24, nameIndex := 218, descriptorIndex := 6, attributes := #[] }, { accessFlags := 128, nameIndex := 5, descriptorIndex := 6, attributes := #[] }])
  fields := #[{ name := "serialVersionUID", type := .long, accessFlags := 26, slot := 0, constantValue := 0 }, { name := "head", type := (.object "java/util/LinkedHashMap$Entry"), accessFlags := 128, slot := 8, constantValue := 0 }, { name := "tail", type := (.object "java/util/LinkedHashMap$Entry"), accessFlags := 128, slot := 9, constantValue := 0 }, { name := "accessOrder", type := .boolean, accessFlags := 16, slot := 10, constantValue := 0 }, { name := "PUT_NORM", type := .int, accessFlags := 24, slot := 1, constantValue := 0 }, { name := "PUT_FIRST", type := .int, accessFlags := 24, slot := 2, constantValue := 0 }, { name := "PUT_LAST", type := .int, accessFlags := 24, slot := 3, constantValue := 0 }, { name := "putMode", type := .int, accessFlags := 128, slot := 11, constantValue := 0 }]
  methods := #[k24m0, k24m1, k24m2, k24m3]
  instanceTypes := #[(.object "java/util/Set"), (.object "java/util/Collection"), (.array (.object "java/util/HashMap$Node")), (.object "java/util/Set"), .int, .int, .int, .float, (.object "java/util/LinkedHashMap$Entry"), (.object "java/util/LinkedHashMap$Entry"), .boolean, .int]
  staticTypes := #[.long, .int, .int, .int]
  resolved := Array.replicate 386 none
  statics := none }

def pool25 : Array CpInfo := pool [(2, .class_ 4), (1, u "java/lang/Object"), (0, u "<init>"), (0, u "()V"), (1, .class_ 10), (1, u "java/lang/Number"), (2, .class_ 14), (0, u "java/io/Serializable"), (0, u "serialVersionUID"), (0, u "J")] 20

def k25m0 : Method := { name := "<init>", desc := "()V", sig := { parameters := [], returnType := none }, accessFlags := 1, code := none }
/-- java/lang/Number -/
def k25 : Class := { plain "java/lang/Number" (some 0) with
  accessFlags := 1057
  interfaces := #[2]
  cf := some (fileOf pool25 8 #[] #[{ accessFlags := 1, nameIndex := 5, descriptorIndex := 6, attributes := #[] }] 1057 2 #[13] #[{ accessFlags := 26, nameIndex := 15, descriptorIndex := 16, attributes := #[] }])
  fields := #[{ name := "serialVersionUID", type := .long, accessFlags := 26, slot := 0, constantValue := 0 }]
  methods := #[k25m0]
  instanceTypes := #[]
  staticTypes := #[.long]
  resolved := Array.replicate 37 none
  statics := none }

def pool26 : Array CpInfo := pool [(1, .class_ 2), (0, u "java/lang/Float"), (48, .class_ 53), (1, u "java/lang/Number"), (3, u "value"), (0, u "F"), (2, u "isNaN"), (0, u "(F)Z"), (28, u "$assertionsDisabled"), (0, u "Z"), (52, u "TYPE"), (0, u "Ljava/lang/Class;"), (0, .class_ 148), (0, u "java/lang/Comparable"), (0, .class_ 150), (0, u "java/lang/constant/Constable"), (0, .class_ 152), (0, u "java/lang/constant/ConstantDesc"), (0, u "POSITIVE_INFINITY"), (1, u "NEGATIVE_INFINITY"), (1, u "NaN"), (1, u "MAX_VALUE"), (0, u "MIN_NORMAL"), (0, u "MIN_VALUE"), (1, u "SIZE"), (0, u "I"), (1, u "PRECISION"), (1, u "MAX_EXPONENT"), (1, u "MIN_EXPONENT"), (1, u "BYTES"), (3, u "serialVersionUID"), (0, u "J")] 101

def k26c0 : Code := { maxStack := 2, maxLocals := 1, code := jdk_118_method_6_code, exceptionTable := #[], attributes := #[] }
def k26m0 : Method := { name := "isNaN", desc := "(F)Z", sig := { parameters := [.float], returnType := some .boolean }, accessFlags := 9, code := some k26c0 }
/-- java/lang/Float -/
def k26 : Class := { plain "java/lang/Float" (some 25) with
  accessFlags := 49
  interfaces := #[3, 5, 6]
  cf := some (fileOf pool26 1 #[] #[{ accessFlags := 9, nameIndex := 61, descriptorIndex := 62, attributes := #[] }] 49 51 #[147, 149, 151] #[{ accessFlags := 25, nameIndex := 153, descriptorIndex := 58, attributes := #[] }, { accessFlags := 25, nameIndex := 155, descriptorIndex := 58, attributes := #[] }, { accessFlags := 25, nameIndex := 157, descriptorIndex := 58, attributes := #[] }, { accessFlags := 25, nameIndex := 159, descriptorIndex := 58, attributes := #[] }, { accessFlags := 25, nameIndex := 160, descriptorIndex := 58, attributes := #[] }, { accessFlags := 25, nameIndex := 161, descriptorIndex := 58, attributes := #[] }, { accessFlags := 25, nameIndex := 163, descriptorIndex := 164, attributes := #[] }, { accessFlags := 25, nameIndex := 166, descriptorIndex := 164, attributes := #[] }, { accessFlags := 25, nameIndex := 168, descriptorIndex := 164, attributes := #[] }, { accessFlags := 25, nameIndex := 170, descriptorIndex := 164, attributes := #[] }, { accessFlags := 25, nameIndex := 172, descriptorIndex := 164, attributes := #[] }, { accessFlags := 25, nameIndex := 145, descriptorIndex := 146, attributes := #[] }, { accessFlags := 18, nameIndex := 57, descriptorIndex := 58, attributes := #[] }, { accessFlags := 26, nameIndex := 176, descriptorIndex := 177, attributes := #[] }, { accessFlags := 4120, nameIndex := 91, descriptorIndex := 92, attributes := #[] }])
  fields := #[{ name := "POSITIVE_INFINITY", type := .float, accessFlags := 25, slot := 0, constantValue := 0 }, { name := "NEGATIVE_INFINITY", type := .float, accessFlags := 25, slot := 1, constantValue := 0 }, { name := "NaN", type := .float, accessFlags := 25, slot := 2, constantValue := 0 }, { name := "MAX_VALUE", type := .float, accessFlags := 25, slot := 3, constantValue := 0 }, { name := "MIN_NORMAL", type := .float, accessFlags := 25, slot := 4, constantValue := 0 }, { name := "MIN_VALUE", type := .float, accessFlags := 25, slot := 5, constantValue := 0 }, { name := "SIZE", type := .int, accessFlags := 25, slot := 6, constantValue := 0 }, { name := "PRECISION", type := .int, accessFlags := 25, slot := 7, constantValue := 0 }, { name := "MAX_EXPONENT", type := .int, accessFlags := 25, slot := 8, constantValue := 0 }, { name := "MIN_EXPONENT", type := .int, accessFlags := 25, slot := 9, constantValue := 0 }, { name := "BYTES", type := .int, accessFlags := 25, slot := 10, constantValue := 0 }, { name := "TYPE", type := (.object "java/lang/Class"), accessFlags := 25, slot := 11, constantValue := 0 }, { name := "value", type := .float, accessFlags := 18, slot := 0, constantValue := 0 }, { name := "serialVersionUID", type := .long, accessFlags := 26, slot := 12, constantValue := 0 }, { name := "$assertionsDisabled", type := .boolean, accessFlags := 4120, slot := 13, constantValue := 0 }]
  methods := #[k26m0]
  instanceTypes := #[.float]
  staticTypes := #[.float, .float, .float, .float, .float, .float, .int, .int, .int, .int, .int, (.object "java/lang/Class"), .long, .boolean]
  resolved := Array.replicate 279 none
  statics := none }

def pool27 : Array CpInfo := pool [(1, .class_ 2), (0, u "java/lang/Integer"), (16, u "digits"), (0, u "[C"), (32, u "numberOfLeadingZeros"), (0, u "(I)I"), (30, u "DigitOnes"), (0, u "[B"), (2, u "DigitTens"), (99, .class_ 190), (0, u "java/lang/Integer$IntegerCache"), (3, u "I"), (8, .class_ 204), (0, u "java/lang/Number"), (2, u "value"), (56, .integer 65536), (37, u "TYPE"), (0, u "Ljava/lang/Class;"), (0, .class_ 305), (0, u "java/lang/Comparable"), (0, .class_ 307), (0, u "java/lang/constant/Constable"), (0, .class_ 309), (0, u "java/lang/constant/ConstantDesc"), (0, u "MIN_VALUE"), (1, u "MAX_VALUE"), (3, u "SIZE"), (1, u "BYTES"), (1, u "serialVersionUID"), (0, u "J")] 131

def k27c0 : Code := { maxStack := 3, maxLocals := 2, code := jdk_33_method_47_code, exceptionTable := #[], attributes := #[] }
def k27m0 : Method := { name := "numberOfLeadingZeros", desc := "(I)I", sig := { parameters := [.int], returnType := some .int }, accessFlags := 9, code := some k27c0 }
/-- java/lang/Integer -/
def k27 : Class := { plain "java/lang/Integer" (some 25) with
  accessFlags := 49
  interfaces := #[3, 5, 6]
  cf := some (fileOf pool27 1 #[.nestMembers #[189]] #[{ accessFlags := 9, nameIndex := 53, descriptorIndex := 54, attributes := #[] }] 49 203 #[304, 306, 308] #[{ accessFlags := 25, nameIndex := 310, descriptorIndex := 194, attributes := #[] }, { accessFlags := 25, nameIndex := 312, descriptorIndex := 194, attributes := #[] }, { accessFlags := 25, nameIndex := 302, descriptorIndex := 303, attributes := #[] }, { accessFlags := 24, nameIndex := 19, descriptorIndex := 20, attributes := #[] }, { accessFlags := 24, nameIndex := 89, descriptorIndex := 86, attributes := #[] }, { accessFlags := 24, nameIndex := 85, descriptorIndex := 86, attributes := #[] }, { accessFlags := 18, nameIndex := 207, descriptorIndex := 194, attributes := #[] }, { accessFlags := 25, nameIndex := 316, descriptorIndex := 194, attributes := #[] }, { accessFlags := 25, nameIndex := 318, descriptorIndex := 194, attributes := #[] }, { accessFlags := 26, nameIndex := 320, descriptorIndex := 321, attributes := #[] }])
  fields := #[{ name := "MIN_VALUE", type := .int, accessFlags := 25, slot := 0, constantValue := 0 }, { name := "MAX_VALUE", type := .int, accessFlags := 25, slot := 1, constantValue := 0 }, { name := "TYPE", type := (.object "java/lang/Class"), accessFlags := 25, slot := 2, constantValue := 0 }, { name := "digits", type := (.array .char), accessFlags := 24, slot := 3, constantValue := 0 }, { name := "DigitTens", type := (.array .byte), accessFlags := 24, slot := 4, constantValue := 0 }, { name := "DigitOnes", type := (.array .byte), accessFlags := 24, slot := 5, constantValue := 0 }, { name := "value", type := .int, accessFlags := 18, slot := 0, constantValue := 0 }, { name := "SIZE", type := .int, accessFlags := 25, slot := 6, constantValue := 0 }, { name := "BYTES", type := .int, accessFlags := 25, slot := 7, constantValue := 0 }, { name := "serialVersionUID", type := .long, accessFlags := 26, slot := 8, constantValue := 0 }]
  methods := #[k27m0]
  instanceTypes := #[.int]
  staticTypes := #[.int, .int, (.object "java/lang/Class"), (.array .char), (.array .byte), (.array .byte), .int, .int, .long]
  resolved := Array.replicate 453 none
  statics := none }

def pool28 : Array CpInfo := pool [(1, .methodref 2 3), (0, .class_ 4), (0, .nameAndType 5 6), (0, u "java/lang/Object"), (0, u "<init>"), (0, u "()V"), (0, .fieldref 8 9), (0, .class_ 10), (0, .nameAndType 11 12), (0, u "com/example/weser/weser/core/RdfGraph"), (0, u "iris"), (0, u "[Ljava/lang/String;"), (0, .fieldref 8 14), (0, .nameAndType 15 12), (0, u "predicateIris"), (0, .fieldref 8 17), (0, .nameAndType 18 12), (0, u "graphLabels"), (0, .methodref 20 21), (0, .class_ 22), (0, .nameAndType 23 24), (0, u "com/example/weser/weser/core/TripleTable"), (0, u "subjects"), (0, u "()[I"), (0, .fieldref 8 26), (0, .nameAndType 27 28), (0, u "linkSources"), (0, u "[I"), (0, .methodref 20 30), (0, .nameAndType 31 24), (0, u "predicates"), (0, .fieldref 8 33), (0, .nameAndType 34 28), (0, u "linkPredicates"), (0, .methodref 20 36), (0, .nameAndType 37 24), (0, u "objects"), (0, .fieldref 8 39), (0, .nameAndType 40 28), (0, u "linkTargets"), (0, .methodref 20 42), (0, .nameAndType 43 44), (0, u "memberships"), (0, u "()Lcom/example/weser/weser/core/Memberships;"), (0, .fieldref 8 46), (0, .nameAndType 47 48), (0, u "linkMemberships"), (0, u "Lcom/example/weser/weser/core/Memberships;"), (0, .fieldref 8 50), (0, .nameAndType 51 28), (0, u "literalSubjects"), (0, .fieldref 8 53), (0, .nameAndType 54 28), (0, u "literalPredicates"), (0, .fieldref 8 56), (0, .nameAndType 57 48), (0, u "literalMemberships"), (0, .fieldref 8 59), (0, .nameAndType 60 28), (0, u "literalObjects"), (0, .fieldref 8 62), (0, .nameAndType 63 12), (0, u "lexicalForms"), (0, .fieldref 8 65), (0, .nameAndType 66 67), (0, u "prefixes"), (0, u "Lcom/example/weser/weser/core/Prefixes;"), (6, u "([Ljava/lang/String;[Ljava/lang/String;[Ljava/lang/String;Lcom/example/weser/weser/core/TripleTable;Lcom/example/weser/weser/core/TripleTable;[Ljava/lang/String;Lcom/example/weser/weser/core/Prefixes;)V"), (9, u "(I)Ljava/lang/String;"), (12, u "lexicalForm")] 2

def k28c0 : Code := { maxStack := 2, maxLocals := 8, code := prog_29_method_1_code, exceptionTable := #[], attributes := #[] }
def k28m0 : Method := { name := "<init>", desc := "([Ljava/lang/String;[Ljava/lang/String;[Ljava/lang/String;Lcom/example/weser/weser/core/TripleTable;Lcom/example/weser/weser/core/TripleTable;[Ljava/lang/String;Lcom/example/weser/weser/core/Prefixes;)V", sig := { parameters := [(.array (.object "java/lang/String")), (.array (.object "java/lang/String")), (.array (.object "java/lang/String")), (.object "com/example/weser/weser/core/TripleTable"), (.object "com/example/weser/weser/core/TripleTable"), (.array (.object "java/lang/String")), (.object "com/example/weser/weser/core/Prefixes")], returnType := none }, accessFlags := 0, code := some k28c0 }
def k28c1 : Code := { maxStack := 3, maxLocals := 2, code := prog_29_method_17_code, exceptionTable := #[], attributes := #[] }
def k28m1 : Method := { name := "lexicalForm", desc := "(I)Ljava/lang/String;", sig := { parameters := [.int], returnType := some (.object "java/lang/String") }, accessFlags := 1, code := some k28c1 }
/-- com/example/weser/weser/core/RdfGraph -/
def k28 : Class := { plain "com/example/weser/weser/core/RdfGraph" (some 0) with
  accessFlags := 49
  interfaces := #[]
  cf := some (fileOf pool28 8 #[] #[{ accessFlags := 0, nameIndex := 5, descriptorIndex := 74, attributes := #[] }, { accessFlags := 1, nameIndex := 97, descriptorIndex := 84, attributes := #[] }] 49 2 #[] #[{ accessFlags := 18, nameIndex := 11, descriptorIndex := 12, attributes := #[] }, { accessFlags := 18, nameIndex := 15, descriptorIndex := 12, attributes := #[] }, { accessFlags := 18, nameIndex := 18, descriptorIndex := 12, attributes := #[] }, { accessFlags := 18, nameIndex := 27, descriptorIndex := 28, attributes := #[] }, { accessFlags := 18, nameIndex := 34, descriptorIndex := 28, attributes := #[] }, { accessFlags := 18, nameIndex := 40, descriptorIndex := 28, attributes := #[] }, { accessFlags := 18, nameIndex := 47, descriptorIndex := 48, attributes := #[] }, { accessFlags := 18, nameIndex := 51, descriptorIndex := 28, attributes := #[] }, { accessFlags := 18, nameIndex := 54, descriptorIndex := 28, attributes := #[] }, { accessFlags := 18, nameIndex := 57, descriptorIndex := 48, attributes := #[] }, { accessFlags := 18, nameIndex := 60, descriptorIndex := 28, attributes := #[] }, { accessFlags := 18, nameIndex := 63, descriptorIndex := 12, attributes := #[] }, { accessFlags := 18, nameIndex := 66, descriptorIndex := 67, attributes := #[] }])
  fields := #[{ name := "iris", type := (.array (.object "java/lang/String")), accessFlags := 18, slot := 0, constantValue := 0 }, { name := "predicateIris", type := (.array (.object "java/lang/String")), accessFlags := 18, slot := 1, constantValue := 0 }, { name := "graphLabels", type := (.array (.object "java/lang/String")), accessFlags := 18, slot := 2, constantValue := 0 }, { name := "linkSources", type := (.array .int), accessFlags := 18, slot := 3, constantValue := 0 }, { name := "linkPredicates", type := (.array .int), accessFlags := 18, slot := 4, constantValue := 0 }, { name := "linkTargets", type := (.array .int), accessFlags := 18, slot := 5, constantValue := 0 }, { name := "linkMemberships", type := (.object "com/example/weser/weser/core/Memberships"), accessFlags := 18, slot := 6, constantValue := 0 }, { name := "literalSubjects", type := (.array .int), accessFlags := 18, slot := 7, constantValue := 0 }, { name := "literalPredicates", type := (.array .int), accessFlags := 18, slot := 8, constantValue := 0 }, { name := "literalMemberships", type := (.object "com/example/weser/weser/core/Memberships"), accessFlags := 18, slot := 9, constantValue := 0 }, { name := "literalObjects", type := (.array .int), accessFlags := 18, slot := 10, constantValue := 0 }, { name := "lexicalForms", type := (.array (.object "java/lang/String")), accessFlags := 18, slot := 11, constantValue := 0 }, { name := "prefixes", type := (.object "com/example/weser/weser/core/Prefixes"), accessFlags := 18, slot := 12, constantValue := 0 }]
  methods := #[k28m0, k28m1]
  instanceTypes := #[(.array (.object "java/lang/String")), (.array (.object "java/lang/String")), (.array (.object "java/lang/String")), (.array .int), (.array .int), (.array .int), (.object "com/example/weser/weser/core/Memberships"), (.array .int), (.array .int), (.object "com/example/weser/weser/core/Memberships"), (.array .int), (.array (.object "java/lang/String")), (.object "com/example/weser/weser/core/Prefixes")]
  staticTypes := #[]
  resolved := Array.replicate 100 none
  statics := none }

def pool29 : Array CpInfo := pool [(1, .methodref 2 3), (0, .class_ 4), (0, .nameAndType 5 6), (0, u "java/lang/Object"), (0, u "<init>"), (0, u "()V"), (0, .class_ 8), (0, u "java/util/LinkedHashMap"), (0, .methodref 7 3), (0, .fieldref 11 12), (0, .class_ 13), (0, .nameAndType 14 15), (0, u "com/example/weser/weser/core/Prefixes"), (0, u "declarations"), (0, u "Ljava/util/Map;"), (58, u "ABSOLUTE"), (0, u "Ljava/util/regex/Pattern;"), (89, u "LETTER_RANGES"), (0, u "[I"), (47, u "INNER_RANGES"), (17, u "ESCAPABLE"), (0, u "Ljava/lang/String;")] 49

def k29c0 : Code := { maxStack := 3, maxLocals := 1, code := prog_25_method_1_code, exceptionTable := #[], attributes := #[] }
def k29m0 : Method := { name := "<init>", desc := "()V", sig := { parameters := [], returnType := none }, accessFlags := 0, code := some k29c0 }
/-- com/example/weser/weser/core/Prefixes -/
def k29 : Class := { plain "com/example/weser/weser/core/Prefixes" (some 0) with
  accessFlags := 49
  interfaces := #[]
  cf := some (fileOf pool29 11 #[] #[{ accessFlags := 0, nameIndex := 5, descriptorIndex := 6, attributes := #[] }] 49 2 #[] #[{ accessFlags := 26, nameIndex := 165, descriptorIndex := 166, attributes := #[] }, { accessFlags := 26, nameIndex := 214, descriptorIndex := 166, attributes := #[] }, { accessFlags := 26, nameIndex := 232, descriptorIndex := 233, attributes := #[] }, { accessFlags := 26, nameIndex := 74, descriptorIndex := 75, attributes := #[] }, { accessFlags := 18, nameIndex := 14, descriptorIndex := 15, attributes := #[] }])
  fields := #[{ name := "LETTER_RANGES", type := (.array .int), accessFlags := 26, slot := 0, constantValue := 0 }, { name := "INNER_RANGES", type := (.array .int), accessFlags := 26, slot := 1, constantValue := 0 }, { name := "ESCAPABLE", type := (.object "java/lang/String"), accessFlags := 26, slot := 2, constantValue := 0 }, { name := "ABSOLUTE", type := (.object "java/util/regex/Pattern"), accessFlags := 26, slot := 3, constantValue := 0 }, { name := "declarations", type := (.object "java/util/Map"), accessFlags := 18, slot := 0, constantValue := 0 }]
  methods := #[k29m0]
  instanceTypes := #[(.object "java/util/Map")]
  staticTypes := #[(.array .int), (.array .int), (.object "java/lang/String"), (.object "java/util/regex/Pattern")]
  resolved := Array.replicate 283 none
  statics := none }

def pool30 : Array CpInfo := pool [(2, .class_ 4), (1, u "java/lang/Object"), (0, u "<init>"), (0, u "()V"), (7, .class_ 16), (1, u "java/util/Arrays"), (57, .class_ 76), (1, u "java/util/Arrays$NaturalOrder"), (36, .class_ 115), (1, u "java/util/Arrays$LegacyMergeSort"), (1, u "Z"), (32, .methodref 151 152), (0, .class_ 153), (0, .nameAndType 154 155), (0, u "java/lang/System"), (0, u "arraycopy"), (0, u "(Ljava/lang/Object;ILjava/lang/Object;II)V"), (146, u "copyOf"), (1, .methodref 305 306), (0, .class_ 307), (0, .nameAndType 308 309), (0, u "java/lang/Math"), (0, u "min"), (0, u "(II)I"), (65, .class_ 376), (0, u "java/util/Arrays$ArrayList"), (68, u "$assertionsDisabled"), (269, u "MIN_ARRAY_SORT_GRAN"), (0, u "I"), (2, u "INSERTIONSORT_THRESHOLD"), (151, u "([II)[I"), (103, .class_ 976), (0, u "java/util/Arrays$ArrayItr")] 52

def k30m0 : Method := { name := "<init>", desc := "()V", sig := { parameters := [], returnType := none }, accessFlags := 2, code := none }
def k30c1 : Code := { maxStack := 6, maxLocals := 3, code := jdk_65_method_123_code, exceptionTable := #[], attributes := #[] }
def k30m1 : Method := { name := "copyOf", desc := "([II)[I", sig := { parameters := [(.array .int), .int], returnType := some (.array .int) }, accessFlags := 9, code := some k30c1 }
/-- java/util/Arrays -/
def k30 : Class := { plain "java/util/Arrays" (some 0) with
  accessFlags := 49
  interfaces := #[]
  cf := some (fileOf pool30 14 #[.nestMembers #[975, 375, 113, 74]] #[{ accessFlags := 2, nameIndex := 5, descriptorIndex := 6, attributes := #[] }, { accessFlags := 9, nameIndex := 302, descriptorIndex := 871, attributes := #[] }] 49 2 #[] #[{ accessFlags := 26, nameIndex := 715, descriptorIndex := 716, attributes := #[] }, { accessFlags := 26, nameIndex := 719, descriptorIndex := 716, attributes := #[] }, { accessFlags := 4120, nameIndex := 445, descriptorIndex := 117, attributes := #[] }])
  fields := #[{ name := "MIN_ARRAY_SORT_GRAN", type := .int, accessFlags := 26, slot := 0, constantValue := 0 }, { name := "INSERTIONSORT_THRESHOLD", type := .int, accessFlags := 26, slot := 1, constantValue := 0 }, { name := "$assertionsDisabled", type := .boolean, accessFlags := 4120, slot := 2, constantValue := 0 }]
  methods := #[k30m0, k30m1]
  instanceTypes := #[]
  staticTypes := #[.int, .int, .boolean]
  resolved := Array.replicate 1029 none
  statics := none }

def pool31 : Array CpInfo := pool [(1, .class_ 2), (0, u "java/lang/Math"), (1, .class_ 6), (1, u "java/lang/Object"), (0, u "<init>"), (0, u "()V"), (89, .class_ 100), (1, u "java/lang/Math$RandomNumberGeneratorHolder"), (71, u "negativeZeroFloatBits"), (0, u "J"), (2, u "negativeZeroDoubleBits"), (24, u "min"), (43, u "$assertionsDisabled"), (0, u "Z"), (88, u "(II)I"), (2, u "twoToTheDoubleScaleDown"), (0, u "D"), (4, u "twoToTheDoubleScaleUp"), (9, u "E"), (3, u "PI"), (2, u "TAU"), (2, u "DEGREES_TO_RADIANS"), (0, u "RADIANS_TO_DEGREES")] 94

def k31m0 : Method := { name := "<init>", desc := "()V", sig := { parameters := [], returnType := none }, accessFlags := 2, code := none }
def k31c1 : Code := { maxStack := 2, maxLocals := 2, code := jdk_29_method_69_code, exceptionTable := #[], attributes := #[] }
def k31m1 : Method := { name := "min", desc := "(II)I", sig := { parameters := [.int, .int], returnType := some .int }, accessFlags := 9, code := some k31c1 }
/-- java/lang/Math -/
def k31 : Class := { plain "java/lang/Math" (some 0) with
  accessFlags := 49
  interfaces := #[]
  cf := some (fileOf pool31 1 #[.nestMembers #[98]] #[{ accessFlags := 2, nameIndex := 7, descriptorIndex := 8, attributes := #[] }, { accessFlags := 9, nameIndex := 201, descriptorIndex := 335, attributes := #[] }] 49 4 #[] #[{ accessFlags := 25, nameIndex := 354, descriptorIndex := 339, attributes := #[] }, { accessFlags := 25, nameIndex := 358, descriptorIndex := 339, attributes := #[] }, { accessFlags := 25, nameIndex := 361, descriptorIndex := 339, attributes := #[] }, { accessFlags := 26, nameIndex := 364, descriptorIndex := 339, attributes := #[] }, { accessFlags := 26, nameIndex := 365, descriptorIndex := 339, attributes := #[] }, { accessFlags := 26, nameIndex := 172, descriptorIndex := 173, attributes := #[] }, { accessFlags := 26, nameIndex := 176, descriptorIndex := 173, attributes := #[] }, { accessFlags := 8, nameIndex := 344, descriptorIndex := 339, attributes := #[] }, { accessFlags := 8, nameIndex := 338, descriptorIndex := 339, attributes := #[] }, { accessFlags := 4120, nameIndex := 245, descriptorIndex := 246, attributes := #[] }])
  fields := #[{ name := "E", type := .double, accessFlags := 25, slot := 0, constantValue := 0 }, { name := "PI", type := .double, accessFlags := 25, slot := 1, constantValue := 0 }, { name := "TAU", type := .double, accessFlags := 25, slot := 2, constantValue := 0 }, { name := "DEGREES_TO_RADIANS", type := .double, accessFlags := 26, slot := 3, constantValue := 0 }, { name := "RADIANS_TO_DEGREES", type := .double, accessFlags := 26, slot := 4, constantValue := 0 }, { name := "negativeZeroFloatBits", type := .long, accessFlags := 26, slot := 5, constantValue := 0 }, { name := "negativeZeroDoubleBits", type := .long, accessFlags := 26, slot := 6, constantValue := 0 }, { name := "twoToTheDoubleScaleUp", type := .double, accessFlags := 8, slot := 7, constantValue := 0 }, { name := "twoToTheDoubleScaleDown", type := .double, accessFlags := 8, slot := 8, constantValue := 0 }, { name := "$assertionsDisabled", type := .boolean, accessFlags := 4120, slot := 9, constantValue := 0 }]
  methods := #[k31m0, k31m1]
  instanceTypes := #[]
  staticTypes := #[.double, .double, .double, .double, .double, .long, .long, .double, .double, .boolean]
  resolved := Array.replicate 460 none
  statics := none }

def pool32 : Array CpInfo := pool [(2, .class_ 4), (1, u "java/lang/Object"), (0, u "<init>"), (0, u "()V"), (1, .class_ 10), (1, u "java/lang/System"), (0, u "allowSecurityManager"), (0, u "I"), (16, u "cons"), (0, u "Ljava/io/Console;"), (77, .class_ 110), (1, u "java/lang/System$CallersHolder"), (43, u "initialErrStream"), (0, u "Ljava/io/PrintStream;"), (19, u "security"), (0, u "Ljava/lang/SecurityManager;"), (31, .class_ 209), (0, u "java/lang/System$1"), (7, u "props"), (0, u "Ljava/util/Properties;"), (2, u "lineSeparator"), (0, u "Ljava/lang/String;"), (96, .class_ 321), (1, u "java/lang/System$LoggerFinder"), (5, .class_ 328), (0, u "java/lang/System$Logger"), (67, u "err"), (2, u "out"), (91, u "notSupportedJnuEncoding"), (15, u "in"), (17, u "initialIn"), (0, u "Ljava/io/InputStream;"), (35, u "bootLayer"), (0, u "Ljava/lang/ModuleLayer;"), (99, .class_ 664), (0, u "java/lang/System$2"), (9, u "NEVER"), (2, u "MAYBE"), (49, u "arraycopy"), (0, u "(Ljava/lang/Object;ILjava/lang/Object;II)V"), (72, .class_ 802), (0, u "java/lang/System$Logger$Level")] 31

def k32m0 : Method := { name := "<init>", desc := "()V", sig := { parameters := [], returnType := none }, accessFlags := 2, code := none }
def k32m1 : Method := { name := "arraycopy", desc := "(Ljava/lang/Object;ILjava/lang/Object;II)V", sig := { parameters := [(.object "java/lang/Object"), .int, (.object "java/lang/Object"), .int, .int], returnType := none }, accessFlags := 265, code := none }
/-- java/lang/System -/
def k32 : Class := { plain "java/lang/System" (some 0) with
  accessFlags := 49
  interfaces := #[]
  cf := some (fileOf pool32 8 #[.nestMembers #[319, 327, 801, 108, 663, 208]] #[{ accessFlags := 2, nameIndex := 5, descriptorIndex := 6, attributes := #[] }, { accessFlags := 265, nameIndex := 727, descriptorIndex := 728, attributes := #[] }] 49 2 #[] #[{ accessFlags := 25, nameIndex := 507, descriptorIndex := 526, attributes := #[] }, { accessFlags := 25, nameIndex := 399, descriptorIndex := 155, attributes := #[] }, { accessFlags := 25, nameIndex := 396, descriptorIndex := 155, attributes := #[] }, { accessFlags := 10, nameIndex := 525, descriptorIndex := 526, attributes := #[] }, { accessFlags := 26, nameIndex := 674, descriptorIndex := 12, attributes := #[] }, { accessFlags := 26, nameIndex := 677, descriptorIndex := 12, attributes := #[] }, { accessFlags := 10, nameIndex := 11, descriptorIndex := 12, attributes := #[] }, { accessFlags := 74, nameIndex := 175, descriptorIndex := 176, attributes := #[] }, { accessFlags := 10, nameIndex := 491, descriptorIndex := 222, attributes := #[] }, { accessFlags := 74, nameIndex := 29, descriptorIndex := 30, attributes := #[] }, { accessFlags := 74, nameIndex := 154, descriptorIndex := 155, attributes := #[] }, { accessFlags := 10, nameIndex := 217, descriptorIndex := 218, attributes := #[] }, { accessFlags := 10, nameIndex := 221, descriptorIndex := 222, attributes := #[] }, { accessFlags := 8, nameIndex := 562, descriptorIndex := 563, attributes := #[] }])
  fields := #[{ name := "in", type := (.object "java/io/InputStream"), accessFlags := 25, slot := 0, constantValue := 0 }, { name := "out", type := (.object "java/io/PrintStream"), accessFlags := 25, slot := 1, constantValue := 0 }, { name := "err", type := (.object "java/io/PrintStream"), accessFlags := 25, slot := 2, constantValue := 0 }, { name := "initialIn", type := (.object "java/io/InputStream"), accessFlags := 10, slot := 3, constantValue := 0 }, { name := "NEVER", type := .int, accessFlags := 26, slot := 4, constantValue := 0 }, { name := "MAYBE", type := .int, accessFlags := 26, slot := 5, constantValue := 0 }, { name := "allowSecurityManager", type := .int, accessFlags := 10, slot := 6, constantValue := 0 }, { name := "security", type := (.object "java/lang/SecurityManager"), accessFlags := 74, slot := 7, constantValue := 0 }, { name := "notSupportedJnuEncoding", type := (.object "java/lang/String"), accessFlags := 10, slot := 8, constantValue := 0 }, { name := "cons", type := (.object "java/io/Console"), accessFlags := 74, slot := 9, constantValue := 0 }, { name := "initialErrStream", type := (.object "java/io/PrintStream"), accessFlags := 74, slot := 10, constantValue := 0 }, { name := "props", type := (.object "java/util/Properties"), accessFlags := 10, slot := 11, constantValue := 0 }, { name := "lineSeparator", type := (.object "java/lang/String"), accessFlags := 10, slot := 12, constantValue := 0 }, { name := "bootLayer", type := (.object "java/lang/ModuleLayer"), accessFlags := 8, slot := 13, constantValue := 0 }]
  methods := #[k32m0, k32m1]
  instanceTypes := #[]
  staticTypes := #[(.object "java/io/InputStream"), (.object "java/io/PrintStream"), (.object "java/io/PrintStream"), (.object "java/io/InputStream"), .int, .int, .int, (.object "java/lang/SecurityManager"), (.object "java/lang/String"), (.object "java/io/Console"), (.object "java/io/PrintStream"), (.object "java/util/Properties"), (.object "java/lang/String"), (.object "java/lang/ModuleLayer")]
  resolved := Array.replicate 834 none
  statics := none }

def pool33 : Array CpInfo := pool [(1, .fieldref 2 3), (0, .class_ 4), (0, .nameAndType 5 6), (0, u "java/util/LinkedHashMap$LinkedKeySet"), (0, u "this$0"), (0, u "Ljava/util/LinkedHashMap;"), (0, .methodref 8 9), (0, .class_ 10), (0, .nameAndType 11 12), (0, u "java/util/AbstractSet"), (0, u "<init>"), (0, u "()V"), (0, .fieldref 2 14), (0, .nameAndType 15 16), (0, u "reversed"), (0, u "Z"), (1, .class_ 20), (1, u "java/util/LinkedHashMap"), (5, .class_ 27), (0, u "java/util/LinkedHashMap$LinkedKeyIterator"), (0, .methodref 26 29), (0, .nameAndType 11 30), (0, u "(Ljava/util/LinkedHashMap;Z)V"), (85, .class_ 117), (0, u "java/util/SequencedSet"), (9, u "iterator"), (0, u "()Ljava/util/Iterator;")] 48

def k33c0 : Code := { maxStack := 2, maxLocals := 3, code := jdk_112_method_1_code, exceptionTable := #[], attributes := #[] }
def k33m0 : Method := { name := "<init>", desc := "(Ljava/util/LinkedHashMap;Z)V", sig := { parameters := [(.object "java/util/LinkedHashMap"), .boolean], returnType := none }, accessFlags := 0, code := some k33c0 }
def k33c1 : Code := { maxStack := 4, maxLocals := 1, code := jdk_112_method_4_code, exceptionTable := #[], attributes := #[] }
def k33m1 : Method := { name := "iterator", desc := "()Ljava/util/Iterator;", sig := { parameters := [], returnType := some (.object "java/util/Iterator") }, accessFlags := 17, code := some k33c1 }
/-- java/util/LinkedHashMap$LinkedKeySet -/
def k33 : Class := { plain "java/util/LinkedHashMap$LinkedKeySet" (some 14) with
  accessFlags := 48
  interfaces := #[18]
  cf := some (fileOf pool33 2 #[.nestHost 18] #[{ accessFlags := 0, nameIndex := 11, descriptorIndex := 30, attributes := #[] }, { accessFlags := 17, nameIndex := 127, descriptorIndex := 128, attributes := #[] }] 48 8 #[116] #[{ accessFlags := 16, nameIndex := 15, descriptorIndex := 16, attributes := #[] }, { accessFlags := 4112, nameIndex := 5, descriptorIndex := 6, attributes := #[] }])
  fields := #[{ name := "reversed", type := .boolean, accessFlags := 16, slot := 0, constantValue := 0 }, { name := "this$0", type := (.object "java/util/LinkedHashMap"), accessFlags := 4112, slot := 1, constantValue := 0 }]
  methods := #[k33m0, k33m1]
  instanceTypes := #[.boolean, (.object "java/util/LinkedHashMap")]
  staticTypes := #[]
  resolved := Array.replicate 177 none
  statics := none }

def pool34 : Array CpInfo := pool [(1, .fieldref 2 3), (0, .class_ 4), (0, .nameAndType 5 6), (0, u "java/util/LinkedHashMap$LinkedHashIterator"), (0, u "this$0"), (0, u "Ljava/util/LinkedHashMap;"), (0, .methodref 8 9), (0, .class_ 10), (0, .nameAndType 11 12), (0, u "java/lang/Object"), (0, u "<init>"), (0, u "()V"), (0, .fieldref 2 14), (0, .nameAndType 15 16), (0, u "reversed"), (0, u "Z"), (1, .class_ 20), (1, u "java/util/LinkedHashMap"), (1, u "Ljava/util/LinkedHashMap$Entry;"), (0, .fieldref 18 24), (0, .nameAndType 25 22), (0, u "head"), (0, .fieldref 2 27), (0, .nameAndType 28 22), (0, u "next"), (0, .fieldref 18 30), (0, .nameAndType 31 32), (0, u "modCount"), (0, u "I"), (0, .fieldref 2 34), (0, .nameAndType 35 32), (0, u "expectedModCount"), (0, .fieldref 2 37), (0, .nameAndType 38 22), (0, u "current"), (32, u "(Ljava/util/LinkedHashMap;Z)V"), (9, u "hasNext"), (0, u "()Z")] 17

def k34c0 : Code := { maxStack := 2, maxLocals := 3, code := jdk_2616_method_1_code, exceptionTable := #[], attributes := #[] }
def k34m0 : Method := { name := "<init>", desc := "(Ljava/util/LinkedHashMap;Z)V", sig := { parameters := [(.object "java/util/LinkedHashMap"), .boolean], returnType := none }, accessFlags := 0, code := some k34c0 }
def k34c1 : Code := { maxStack := 1, maxLocals := 1, code := jdk_2616_method_2_code, exceptionTable := #[], attributes := #[] }
def k34m1 : Method := { name := "hasNext", desc := "()Z", sig := { parameters := [], returnType := some .boolean }, accessFlags := 17, code := some k34c1 }
/-- java/util/LinkedHashMap$LinkedHashIterator -/
def k34 : Class := { plain "java/util/LinkedHashMap$LinkedHashIterator" (some 0) with
  accessFlags := 1056
  interfaces := #[]
  cf := some (fileOf pool34 2 #[.nestHost 18] #[{ accessFlags := 0, nameIndex := 11, descriptorIndex := 71, attributes := #[] }, { accessFlags := 17, nameIndex := 81, descriptorIndex := 82, attributes := #[] }] 1056 8 #[] #[{ accessFlags := 0, nameIndex := 28, descriptorIndex := 22, attributes := #[] }, { accessFlags := 0, nameIndex := 38, descriptorIndex := 22, attributes := #[] }, { accessFlags := 0, nameIndex := 35, descriptorIndex := 32, attributes := #[] }, { accessFlags := 0, nameIndex := 15, descriptorIndex := 16, attributes := #[] }, { accessFlags := 4112, nameIndex := 5, descriptorIndex := 6, attributes := #[] }])
  fields := #[{ name := "next", type := (.object "java/util/LinkedHashMap$Entry"), accessFlags := 0, slot := 0, constantValue := 0 }, { name := "current", type := (.object "java/util/LinkedHashMap$Entry"), accessFlags := 0, slot := 1, constantValue := 0 }, { name := "expectedModCount", type := .int, accessFlags := 0, slot := 2, constantValue := 0 }, { name := "reversed", type := .boolean, accessFlags := 0, slot := 3, constantValue := 0 }, { name := "this$0", type := (.object "java/util/LinkedHashMap"), accessFlags := 4112, slot := 4, constantValue := 0 }]
  methods := #[k34m0, k34m1]
  instanceTypes := #[(.object "java/util/LinkedHashMap$Entry"), (.object "java/util/LinkedHashMap$Entry"), .int, .boolean, (.object "java/util/LinkedHashMap")]
  staticTypes := #[]
  resolved := Array.replicate 100 none
  statics := none }

def pool35 : Array CpInfo := pool [(16, .class_ 18), (1, u "java/util/Iterator"), (0, u "hasNext"), (0, u "()Z"), (10, .class_ 32), (0, u "java/lang/Object")] 20

def k35m0 : Method := { name := "hasNext", desc := "()Z", sig := { parameters := [], returnType := some .boolean }, accessFlags := 1025, code := none }
/-- java/util/Iterator -/
def k35 : Class := { plain "java/util/Iterator" (some 0) with
  accessFlags := 1537
  interfaces := #[]
  cf := some (fileOf pool35 16 #[] #[{ accessFlags := 1025, nameIndex := 19, descriptorIndex := 20, attributes := #[] }] 1537 31 #[] #[])
  fields := #[]
  methods := #[k35m0]
  instanceTypes := #[]
  staticTypes := #[]
  resolved := Array.replicate 53 none
  statics := none }

def pool36 : Array CpInfo := pool [(1, .methodref 2 3), (0, .class_ 4), (0, .nameAndType 5 6), (0, u "java/util/LinkedHashMap$LinkedHashIterator"), (0, u "<init>"), (0, u "(Ljava/util/LinkedHashMap;Z)V"), (1, .class_ 10), (1, u "java/util/LinkedHashMap$LinkedKeyIterator"), (8, .class_ 20), (0, u "java/util/Iterator"), (19, .class_ 41), (0, u "java/util/LinkedHashMap")] 4

def k36c0 : Code := { maxStack := 3, maxLocals := 3, code := jdk_2617_method_1_code, exceptionTable := #[], attributes := #[] }
def k36m0 : Method := { name := "<init>", desc := "(Ljava/util/LinkedHashMap;Z)V", sig := { parameters := [(.object "java/util/LinkedHashMap"), .boolean], returnType := none }, accessFlags := 0, code := some k36c0 }
/-- java/util/LinkedHashMap$LinkedKeyIterator -/
def k36 : Class := { plain "java/util/LinkedHashMap$LinkedKeyIterator" (some 34) with
  accessFlags := 48
  interfaces := #[35]
  cf := some (fileOf pool36 8 #[.nestHost 40] #[{ accessFlags := 0, nameIndex := 5, descriptorIndex := 6, attributes := #[] }] 48 2 #[19] #[])
  fields := #[]
  methods := #[k36m0]
  instanceTypes := #[(.object "java/util/LinkedHashMap$Entry"), (.object "java/util/LinkedHashMap$Entry"), .int, .boolean, (.object "java/util/LinkedHashMap")]
  staticTypes := #[]
  resolved := Array.replicate 46 none
  statics := none }

def pool37 : Array CpInfo := pool [(1, .methodref 2 3), (0, .class_ 4), (0, .nameAndType 5 6), (0, u "java/lang/Object"), (0, u "<init>"), (0, u "()V"), (0, .class_ 8), (0, u "java/lang/Record")] 13

def k37c0 : Code := { maxStack := 1, maxLocals := 1, code := jdk_30_method_1_code, exceptionTable := #[], attributes := #[] }
def k37m0 : Method := { name := "<init>", desc := "()V", sig := { parameters := [], returnType := none }, accessFlags := 4, code := some k37c0 }
/-- java/lang/Record -/
def k37 : Class := { plain "java/lang/Record" (some 0) with
  accessFlags := 1057
  interfaces := #[]
  cf := some (fileOf pool37 7 #[] #[{ accessFlags := 4, nameIndex := 5, descriptorIndex := 6, attributes := #[] }] 1057 2 #[] #[])
  fields := #[]
  methods := #[k37m0]
  instanceTypes := #[]
  staticTypes := #[]
  resolved := Array.replicate 22 none
  statics := none }

def pool38 : Array CpInfo := pool [(1, .methodref 2 3), (0, .class_ 4), (0, .nameAndType 5 6), (0, u "java/lang/Record"), (0, u "<init>"), (0, u "()V"), (0, .fieldref 8 9), (0, .class_ 10), (0, .nameAndType 11 12), (0, u "com/example/weser/weser/core/Memberships"), (0, u "triples"), (0, u "[I"), (0, .fieldref 8 14), (0, .nameAndType 15 12), (0, u "graphs"), (12, u "([I[I)V")] 28

def k38c0 : Code := { maxStack := 2, maxLocals := 3, code := prog_20_method_1_code, exceptionTable := #[], attributes := #[] }
def k38m0 : Method := { name := "<init>", desc := "([I[I)V", sig := { parameters := [(.array .int), (.array .int)], returnType := none }, accessFlags := 0, code := some k38c0 }
/-- com/example/weser/weser/core/Memberships -/
def k38 : Class := { plain "com/example/weser/weser/core/Memberships" (some 37) with
  accessFlags := 48
  interfaces := #[]
  cf := some (fileOf pool38 8 #[] #[{ accessFlags := 0, nameIndex := 5, descriptorIndex := 28, attributes := #[] }] 48 2 #[] #[{ accessFlags := 18, nameIndex := 11, descriptorIndex := 12, attributes := #[] }, { accessFlags := 18, nameIndex := 15, descriptorIndex := 12, attributes := #[] }])
  fields := #[{ name := "triples", type := (.array .int), accessFlags := 18, slot := 0, constantValue := 0 }, { name := "graphs", type := (.array .int), accessFlags := 18, slot := 1, constantValue := 0 }]
  methods := #[k38m0]
  instanceTypes := #[(.array .int), (.array .int)]
  staticTypes := #[]
  resolved := Array.replicate 57 none
  statics := none }

def pool39 : Array CpInfo := pool [(2, .class_ 4), (1, u "java/lang/Object"), (0, u "<init>"), (0, u "()V"), (17, .class_ 26), (1, u "jdk/internal/util/Preconditions"), (28, .class_ 56), (0, u "jdk/internal/util/Preconditions$4"), (57, .class_ 115), (0, u "jdk/internal/util/Preconditions$1"), (7, u "SIOOBE_FORMATTER"), (0, u "Ljava/util/function/BiFunction;"), (0, .class_ 126), (0, u "jdk/internal/util/Preconditions$2"), (3, u "AIOOBE_FORMATTER"), (0, .class_ 132), (0, u "jdk/internal/util/Preconditions$3"), (3, u "IOOBE_FORMATTER")] 57

def k39m0 : Method := { name := "<init>", desc := "()V", sig := { parameters := [], returnType := none }, accessFlags := 1, code := none }
/-- jdk/internal/util/Preconditions -/
def k39 : Class := { plain "jdk/internal/util/Preconditions" (some 0) with
  accessFlags := 33
  interfaces := #[]
  cf := some (fileOf pool39 24 #[.nestMembers #[55, 131, 125, 114]] #[{ accessFlags := 1, nameIndex := 5, descriptorIndex := 6, attributes := #[] }] 33 2 #[] #[{ accessFlags := 25, nameIndex := 123, descriptorIndex := 124, attributes := #[] }, { accessFlags := 25, nameIndex := 130, descriptorIndex := 124, attributes := #[] }, { accessFlags := 25, nameIndex := 136, descriptorIndex := 124, attributes := #[] }])
  fields := #[{ name := "SIOOBE_FORMATTER", type := (.object "java/util/function/BiFunction"), accessFlags := 25, slot := 0, constantValue := 0 }, { name := "AIOOBE_FORMATTER", type := (.object "java/util/function/BiFunction"), accessFlags := 25, slot := 1, constantValue := 0 }, { name := "IOOBE_FORMATTER", type := (.object "java/util/function/BiFunction"), accessFlags := 25, slot := 2, constantValue := 0 }]
  methods := #[k39m0]
  instanceTypes := #[]
  staticTypes := #[(.object "java/util/function/BiFunction"), (.object "java/util/function/BiFunction"), (.object "java/util/function/BiFunction")]
  resolved := Array.replicate 194 none
  statics := some 1 }

def pool40 : Array CpInfo := pool [(9, u "<init>"), (6, .class_ 18), (1, u "java/lang/Object"), (0, u "()V"), (1, .class_ 23), (1, u "jdk/internal/util/ArraysSupport"), (0, u "LOG2_ARRAY_LONG_INDEX_SCALE"), (0, u "I"), (2, u "U"), (0, u "Ljdk/internal/misc/Unsafe;"), (8, u "BIG_ENDIAN"), (0, u "Z"), (8, u "LOG2_BYTE_BIT_SIZE"), (4, u "LOG2_ARRAY_INT_INDEX_SCALE"), (54, u "JLA"), (0, u "Ljdk/internal/access/JavaLangAccess;"), (11, u "LOG2_ARRAY_BOOLEAN_INDEX_SCALE"), (9, u "LOG2_ARRAY_BYTE_INDEX_SCALE"), (5, u "LOG2_ARRAY_CHAR_INDEX_SCALE"), (5, u "LOG2_ARRAY_SHORT_INDEX_SCALE"), (18, u "LOG2_ARRAY_FLOAT_INDEX_SCALE"), (24, u "LOG2_ARRAY_DOUBLE_INDEX_SCALE"), (89, u "T_BOOLEAN"), (2, u "T_CHAR"), (1, u "T_FLOAT"), (1, u "T_DOUBLE"), (1, u "T_BYTE"), (1, u "T_SHORT"), (1, u "T_INT"), (1, u "T_LONG"), (1, u "SOFT_MAX_ARRAY_LENGTH")] 83

def k40m0 : Method := { name := "<init>", desc := "()V", sig := { parameters := [], returnType := none }, accessFlags := 2, code := none }
/-- jdk/internal/util/ArraysSupport -/
def k40 : Class := { plain "jdk/internal/util/ArraysSupport" (some 0) with
  accessFlags := 33
  interfaces := #[]
  cf := some (fileOf pool40 21 #[] #[{ accessFlags := 2, nameIndex := 9, descriptorIndex := 19, attributes := #[] }] 33 16 #[] #[{ accessFlags := 24, nameIndex := 28, descriptorIndex := 29, attributes := #[] }, { accessFlags := 26, nameIndex := 38, descriptorIndex := 39, attributes := #[] }, { accessFlags := 25, nameIndex := 121, descriptorIndex := 25, attributes := #[] }, { accessFlags := 25, nameIndex := 131, descriptorIndex := 25, attributes := #[] }, { accessFlags := 25, nameIndex := 137, descriptorIndex := 25, attributes := #[] }, { accessFlags := 25, nameIndex := 143, descriptorIndex := 25, attributes := #[] }, { accessFlags := 25, nameIndex := 53, descriptorIndex := 25, attributes := #[] }, { accessFlags := 25, nameIndex := 24, descriptorIndex := 25, attributes := #[] }, { accessFlags := 25, nameIndex := 162, descriptorIndex := 25, attributes := #[] }, { accessFlags := 25, nameIndex := 187, descriptorIndex := 25, attributes := #[] }, { accessFlags := 26, nameIndex := 48, descriptorIndex := 25, attributes := #[] }, { accessFlags := 25, nameIndex := 277, descriptorIndex := 25, attributes := #[] }, { accessFlags := 25, nameIndex := 280, descriptorIndex := 25, attributes := #[] }, { accessFlags := 25, nameIndex := 282, descriptorIndex := 25, attributes := #[] }, { accessFlags := 25, nameIndex := 284, descriptorIndex := 25, attributes := #[] }, { accessFlags := 25, nameIndex := 286, descriptorIndex := 25, attributes := #[] }, { accessFlags := 25, nameIndex := 288, descriptorIndex := 25, attributes := #[] }, { accessFlags := 25, nameIndex := 290, descriptorIndex := 25, attributes := #[] }, { accessFlags := 25, nameIndex := 292, descriptorIndex := 25, attributes := #[] }, { accessFlags := 26, nameIndex := 108, descriptorIndex := 109, attributes := #[] }, { accessFlags := 25, nameIndex := 294, descriptorIndex := 25, attributes := #[] }])
  fields := #[{ name := "U", type := (.object "jdk/internal/misc/Unsafe"), accessFlags := 24, slot := 0, constantValue := 0 }, { name := "BIG_ENDIAN", type := .boolean, accessFlags := 26, slot := 1, constantValue := 0 }, { name := "LOG2_ARRAY_BOOLEAN_INDEX_SCALE", type := .int, accessFlags := 25, slot := 2, constantValue := 0 }, { name := "LOG2_ARRAY_BYTE_INDEX_SCALE", type := .int, accessFlags := 25, slot := 3, constantValue := 0 }, { name := "LOG2_ARRAY_CHAR_INDEX_SCALE", type := .int, accessFlags := 25, slot := 4, constantValue := 0 }, { name := "LOG2_ARRAY_SHORT_INDEX_SCALE", type := .int, accessFlags := 25, slot := 5, constantValue := 0 }, { name := "LOG2_ARRAY_INT_INDEX_SCALE", type := .int, accessFlags := 25, slot := 6, constantValue := 0 }, { name := "LOG2_ARRAY_LONG_INDEX_SCALE", type := .int, accessFlags := 25, slot := 7, constantValue := 0 }, { name := "LOG2_ARRAY_FLOAT_INDEX_SCALE", type := .int, accessFlags := 25, slot := 8, constantValue := 0 }, { name := "LOG2_ARRAY_DOUBLE_INDEX_SCALE", type := .int, accessFlags := 25, slot := 9, constantValue := 0 }, { name := "LOG2_BYTE_BIT_SIZE", type := .int, accessFlags := 26, slot := 10, constantValue := 0 }, { name := "T_BOOLEAN", type := .int, accessFlags := 25, slot := 11, constantValue := 0 }, { name := "T_CHAR", type := .int, accessFlags := 25, slot := 12, constantValue := 0 }, { name := "T_FLOAT", type := .int, accessFlags := 25, slot := 13, constantValue := 0 }, { name := "T_DOUBLE", type := .int, accessFlags := 25, slot := 14, constantValue := 0 }, { name := "T_BYTE", type := .int, accessFlags := 25, slot := 15, constantValue := 0 }, { name := "T_SHORT", type := .int, accessFlags := 25, slot := 16, constantValue := 0 }, { name := "T_INT", type := .int, accessFlags := 25, slot := 17, constantValue := 0 }, { name := "T_LONG", type := .int, accessFlags := 25, slot := 18, constantValue := 0 }, { name := "JLA", type := (.object "jdk/internal/access/JavaLangAccess"), accessFlags := 26, slot := 19, constantValue := 0 }, { name := "SOFT_MAX_ARRAY_LENGTH", type := .int, accessFlags := 25, slot := 20, constantValue := 0 }]
  methods := #[k40m0]
  instanceTypes := #[]
  staticTypes := #[(.object "jdk/internal/misc/Unsafe"), .boolean, .int, .int, .int, .int, .int, .int, .int, .int, .int, .int, .int, .int, .int, .int, .int, .int, .int, (.object "jdk/internal/access/JavaLangAccess"), .int]
  resolved := Array.replicate 378 none
  statics := none }

/-- the primitive byte -/
def k41 : Class := { plain "byte" none with kind := .primitive 'B', accessFlags := 0x411 }
/-- [B -/
def k42 : Class := { plain "[B" (some 0) with kind := .array 41 .byte, interfaces := #[15, 2], accessFlags := 1041 }

/-- the primitive int -/
def k43 : Class := { plain "int" none with kind := .primitive 'I', accessFlags := 0x411 }
/-- [I -/
def k44 : Class := { plain "[I" (some 0) with kind := .array 43 .int, interfaces := #[15, 2], accessFlags := 1041 }

/-- [Ljava/lang/String; -/
def k45 : Class := { plain "[Ljava/lang/String;" (some 0) with kind := .array 7 (.object "java/lang/String"), interfaces := #[15, 2], accessFlags := 1041 }

def heap : Heap := #[{ cls := 7, slots := #[.long 0, .int 1, .null, .int 0, .null, .int 0, .int 0], vm := .statics 7 },
  { cls := 39, slots := #[.null, .null, .null], vm := .statics 39 }]
def classes : Array Class := #[k0, k1, k2, k3, k4, k5, k6, k7, k8, k9, k10, k11, k12, k13, k14, k15, k16, k17, k18, k19, k20, k21, k22, k23, k24, k25, k26, k27, k28, k29, k30, k31, k32, k33, k34, k35, k36, k37, k38, k39, k40, k41, k42, k43, k44, k45]
def interned : List (Array UInt16 × Addr) := []
def slotsUsed : Nat := 10
def theMethod : MethodId := ⟨1, 1⟩
def args0 : Array Value := #[.int 27, .int 1684234849, .int 4]
def aboutOver (below : List Frame) : State where
  vm := { classes := classes, interned := interned.toArray }
  heap := heap
  slotsUsed := slotsUsed
  threads := #[{ frames := .invoking theMethod args0 :: below }]
def below0 : List Frame := [.native { method := ⟨0, 0⟩, args := #[] }]
def about1 : State := aboutOver below0
def p0 : Program := .bare "" "" ""
def e0 : Env := launch0.env 0 0 0
theorem w_frames : about1.frames = Frame.invoking theMethod args0 :: below0 := rfl
set_option maxRecDepth 65536 in
theorem w_args : argsFit about1.vm theMethod args0 = true := by decide +kernel
set_option maxRecDepth 65536 in
theorem w_heap : heapFits about1 = true := by decide +kernel
set_option maxRecDepth 65536 in
theorem w_runnable : about1.curStatus? = some .runnable := by decide +kernel
set_option maxRecDepth 65536 in
theorem w_alone : about1.alone = true := by decide +kernel
set_option maxRecDepth 65536 in
theorem w_named : about1.methodNamed? x = some theMethod := by decide +kernel
set_option maxRecDepth 65536 in
theorem w_hears : about1.hears theMethod below0 = true := by decide +kernel
set_option maxRecDepth 65536 in
theorem w_ripe : about1.ripe theMethod args0 below0 = true := by decide +kernel
theorem w_running : about1.status = .running := rfl
set_option maxRecDepth 65536 in
theorem w_room : about1.hasRoom e0.platform room_1 = true :=
  launch0.hasRoom_least _ room_1 (by decide +kernel) (by decide +kernel) (by decide +kernel) (by decide +kernel) (by decide +kernel) (by decide +kernel)
theorem allAtoms_all (ts : List Jvm.Cond) (a : Array Jvm.Value) (st : Jvm.State) : (allAtoms ts).before a st = ts.all (fun c => c.before a st) := by
  induction ts with
  | nil => rfl
  | cons c t ih =>
    show (Jvm.Cond.and c (allAtoms t)).before a st = _
    rw [Jvm.Cond.before_and, ih, List.all_cons]
def words1 : List Jvm.Cond := Jvm.Cond.code x code maxLocals ret :: tables_1
/-- a 'code' word, met by the world's own term for the bytes: nothing is compared byte by byte -/
theorem code_word {y : MethodName} {bytes : ByteArray} {mx : Nat} {rt : Option FieldType} {a : Array Value} {s : State} {m : MethodId} {meth : Method} {c : Code} (h1 : s.methodNamed? y = some m) (h2 : s.vm.method? m = some meth) (h3 : meth.code = some c) (h4 : c.code = bytes)
    (h5 : (c.maxLocals == mx && c.exceptionTable.isEmpty && decide (c.maxStack ≤ mostOperands) && decide (meth.sig.returnType = rt) && !meth.locks && decide (parseMethodDescriptor y.desc = some meth.sig)) = true) : (Jvm.Cond.code y bytes mx rt).before a s = true := by
  simp only [Bool.and_eq_true, beq_iff_eq, Bool.not_eq_true', decide_eq_true_eq] at h5
  obtain ⟨⟨⟨⟨⟨g1, g2⟩, g3⟩, g4⟩, g5⟩, g6⟩ := h5
  simp [Cond.before, Cond.holds, Cond.value, h1, h2, h3, h4, g1, g2, g3, g4, g5, g6]
def isCode : Jvm.Cond → Bool
  | .code _ _ _ _ => true
  | _ => false
theorem all_split {L : List Jvm.Cond} {P : Jvm.Cond → Bool} (h1 : L.all (fun c => isCode c || P c) = true) (h2 : ∀ c ∈ L.filter isCode, P c = true) : L.all P = true := by
  refine List.all_eq_true.mpr fun c hc => ?_
  have h := List.all_eq_true.mp h1 c hc
  rcases Bool.eq_false_or_eq_true (isCode c) with hi | hi
  · exact h2 c (List.mem_filter.mpr ⟨hc, hi⟩)
  · simpa [hi] using h
set_option maxRecDepth 65536 in
theorem w_c0 : (Jvm.Cond.code x code maxLocals ret).before args0 about1 = true := code_word (m := ⟨1, 1⟩) (meth := k1m1) (c := k1c1) (by decide +kernel) rfl rfl rfl (by decide +kernel)
set_option maxRecDepth 65536 in
theorem w_c1 : (Jvm.Cond.code ({ cls := "java/lang/String", name := "valueOf", desc := "(C)Ljava/lang/String;" } : Jvm.MethodName) jdk_42_method_139_code (1 : Nat) (Option.some (Jvm.ClassFile.FieldType.object "java/lang/String"))).before args0 about1 = true := code_word (m := ⟨7, 2⟩) (meth := k7m2) (c := k7c2) (by decide +kernel) rfl rfl rfl (by decide +kernel)
set_option maxRecDepth 65536 in
theorem w_c2 : (Jvm.Cond.code ({ cls := "java/lang/StringLatin1", name := "canEncode", desc := "(C)Z" } : Jvm.MethodName) jdk_43_method_3_code (1 : Nat) (Option.some Jvm.ClassFile.FieldType.boolean)).before args0 about1 = true := code_word (m := ⟨8, 1⟩) (meth := k8m1) (c := k8c1) (by decide +kernel) rfl rfl rfl (by decide +kernel)
set_option maxRecDepth 65536 in
theorem w_c3 : (Jvm.Cond.code ({ cls := "java/lang/StringLatin1", name := "toBytes", desc := "(C)[B" } : Jvm.MethodName) jdk_43_method_46_code (1 : Nat) (Option.some (Jvm.ClassFile.FieldType.array Jvm.ClassFile.FieldType.byte))).before args0 about1 = true := code_word (m := ⟨8, 2⟩) (meth := k8m2) (c := k8c2) (by decide +kernel) rfl rfl rfl (by decide +kernel)
set_option maxRecDepth 65536 in
theorem w_c4 : (Jvm.Cond.code ({ cls := "java/lang/String", name := "<init>", desc := "([BB)V" } : Jvm.MethodName) jdk_42_method_151_code (3 : Nat) (Option.none : Option Jvm.ClassFile.FieldType)).before args0 about1 = true := code_word (m := ⟨7, 3⟩) (meth := k7m3) (c := k7c3) (by decide +kernel) rfl rfl rfl (by decide +kernel)
set_option maxRecDepth 65536 in
theorem w_c5 : (Jvm.Cond.code ({ cls := "java/lang/Object", name := "<init>", desc := "()V" } : Jvm.MethodName) object_method_1_code (1 : Nat) (Option.none : Option Jvm.ClassFile.FieldType)).before args0 about1 = true := code_word (m := ⟨0, 0⟩) (meth := k0m0) (c := k0c0) (by decide +kernel) rfl rfl rfl (by decide +kernel)
set_option maxRecDepth 65536 in
theorem w_c6 : (Jvm.Cond.code ({ cls := "com/example/weser/weser/core/TripleTable", name := "<init>", desc := "()V" } : Jvm.MethodName) prog_37_method_1_code (1 : Nat) (Option.none : Option Jvm.ClassFile.FieldType)).before args0 about1 = true := code_word (m := ⟨9, 0⟩) (meth := k9m0) (c := k9c0) (by decide +kernel) rfl rfl rfl (by decide +kernel)
set_option maxRecDepth 65536 in
theorem w_c7 : (Jvm.Cond.code ({ cls := "java/util/LinkedHashSet", name := "<init>", desc := "()V" } : Jvm.MethodName) jdk_2620_method_3_code (1 : Nat) (Option.none : Option Jvm.ClassFile.FieldType)).before args0 about1 = true := code_word (m := ⟨19, 0⟩) (meth := k19m0) (c := k19c0) (by decide +kernel) rfl rfl rfl (by decide +kernel)
set_option maxRecDepth 65536 in
theorem w_c8 : (Jvm.Cond.code ({ cls := "java/util/HashSet", name := "<init>", desc := "(IFZ)V" } : Jvm.MethodName) jdk_93_method_5_code (4 : Nat) (Option.none : Option Jvm.ClassFile.FieldType)).before args0 about1 = true := code_word (m := ⟨16, 1⟩) (meth := k16m1) (c := k16c1) (by decide +kernel) rfl rfl rfl (by decide +kernel)
set_option maxRecDepth 65536 in
theorem w_c9 : (Jvm.Cond.code ({ cls := "java/util/AbstractSet", name := "<init>", desc := "()V" } : Jvm.MethodName) jdk_91_method_1_code (1 : Nat) (Option.none : Option Jvm.ClassFile.FieldType)).before args0 about1 = true := code_word (m := ⟨14, 0⟩) (meth := k14m0) (c := k14c0) (by decide +kernel) rfl rfl rfl (by decide +kernel)
set_option maxRecDepth 65536 in
theorem w_c10 : (Jvm.Cond.code ({ cls := "java/util/AbstractCollection", name := "<init>", desc := "()V" } : Jvm.MethodName) jdk_22_method_1_code (1 : Nat) (Option.none : Option Jvm.ClassFile.FieldType)).before args0 about1 = true := code_word (m := ⟨12, 0⟩) (meth := k12m0) (c := k12c0) (by decide +kernel) rfl rfl rfl (by decide +kernel)
set_option maxRecDepth 65536 in
theorem w_c11 : (Jvm.Cond.code ({ cls := "java/util/LinkedHashMap", name := "<init>", desc := "(IF)V" } : Jvm.MethodName) jdk_94_method_14_code (3 : Nat) (Option.none : Option Jvm.ClassFile.FieldType)).before args0 about1 = true := code_word (m := ⟨24, 0⟩) (meth := k24m0) (c := k24c0) (by decide +kernel) rfl rfl rfl (by decide +kernel)
set_option maxRecDepth 65536 in
theorem w_c12 : (Jvm.Cond.code ({ cls := "java/util/HashMap", name := "<init>", desc := "(IF)V" } : Jvm.MethodName) jdk_69_method_5_code (3 : Nat) (Option.none : Option Jvm.ClassFile.FieldType)).before args0 about1 = true := code_word (m := ⟨22, 1⟩) (meth := k22m1) (c := k22c1) (by decide +kernel) rfl rfl rfl (by decide +kernel)
set_option maxRecDepth 65536 in
theorem w_c13 : (Jvm.Cond.code ({ cls := "java/util/AbstractMap", name := "<init>", desc := "()V" } : Jvm.MethodName) jdk_71_method_1_code (1 : Nat) (Option.none : Option Jvm.ClassFile.FieldType)).before args0 about1 = true := code_word (m := ⟨21, 0⟩) (meth := k21m0) (c := k21c0) (by decide +kernel) rfl rfl rfl (by decide +kernel)
set_option maxRecDepth 65536 in
theorem w_c14 : (Jvm.Cond.code ({ cls := "java/lang/Float", name := "isNaN", desc := "(F)Z" } : Jvm.MethodName) jdk_118_method_6_code (1 : Nat) (Option.some Jvm.ClassFile.FieldType.boolean)).before args0 about1 = true := code_word (m := ⟨26, 0⟩) (meth := k26m0) (c := k26c0) (by decide +kernel) rfl rfl rfl (by decide +kernel)
set_option maxRecDepth 65536 in
theorem w_c15 : (Jvm.Cond.code ({ cls := "java/util/HashMap", name := "tableSizeFor", desc := "(I)I" } : Jvm.MethodName) jdk_69_method_4_code (2 : Nat) (Option.some Jvm.ClassFile.FieldType.int)).before args0 about1 = true := code_word (m := ⟨22, 0⟩) (meth := k22m0) (c := k22c0) (by decide +kernel) rfl rfl rfl (by decide +kernel)
set_option maxRecDepth 65536 in
theorem w_c16 : (Jvm.Cond.code ({ cls := "java/lang/Integer", name := "numberOfLeadingZeros", desc := "(I)I" } : Jvm.MethodName) jdk_33_method_47_code (2 : Nat) (Option.some Jvm.ClassFile.FieldType.int)).before args0 about1 = true := code_word (m := ⟨27, 0⟩) (meth := k27m0) (c := k27c0) (by decide +kernel) rfl rfl rfl (by decide +kernel)
set_option maxRecDepth 65536 in
theorem w_c17 : (Jvm.Cond.code ({ cls := "com/example/weser/weser/core/TripleTable", name := "add", desc := "(IIII)V" } : Jvm.MethodName) prog_37_method_2_code (8 : Nat) (Option.none : Option Jvm.ClassFile.FieldType)).before args0 about1 = true := code_word (m := ⟨9, 1⟩) (meth := k9m1) (c := k9c1) (by decide +kernel) rfl rfl rfl (by decide +kernel)
set_option maxRecDepth 65536 in
theorem w_c18 : (Jvm.Cond.code ({ cls := "com/example/weser/weser/core/TripleTable", name := "hash", desc := "(III)I" } : Jvm.MethodName) prog_37_method_8_code (4 : Nat) (Option.some Jvm.ClassFile.FieldType.int)).before args0 about1 = true := code_word (m := ⟨9, 6⟩) (meth := k9m6) (c := k9c6) (by decide +kernel) rfl rfl rfl (by decide +kernel)
set_option maxRecDepth 65536 in
theorem w_c19 : (Jvm.Cond.code ({ cls := "com/example/weser/weser/core/Prefixes", name := "<init>", desc := "()V" } : Jvm.MethodName) prog_25_method_1_code (1 : Nat) (Option.none : Option Jvm.ClassFile.FieldType)).before args0 about1 = true := code_word (m := ⟨29, 0⟩) (meth := k29m0) (c := k29c0) (by decide +kernel) rfl rfl rfl (by decide +kernel)
set_option maxRecDepth 65536 in
theorem w_c20 : (Jvm.Cond.code ({ cls := "java/util/LinkedHashMap", name := "<init>", desc := "()V" } : Jvm.MethodName) jdk_94_method_16_code (1 : Nat) (Option.none : Option Jvm.ClassFile.FieldType)).before args0 about1 = true := code_word (m := ⟨24, 1⟩) (meth := k24m1) (c := k24c1) (by decide +kernel) rfl rfl rfl (by decide +kernel)
set_option maxRecDepth 65536 in
theorem w_c21 : (Jvm.Cond.code ({ cls := "java/util/HashMap", name := "<init>", desc := "()V" } : Jvm.MethodName) jdk_69_method_7_code (1 : Nat) (Option.none : Option Jvm.ClassFile.FieldType)).before args0 about1 = true := code_word (m := ⟨22, 2⟩) (meth := k22m2) (c := k22c2) (by decide +kernel) rfl rfl rfl (by decide +kernel)
set_option maxRecDepth 65536 in
theorem w_c22 : (Jvm.Cond.code ({ cls := "com/example/weser/weser/core/RdfGraph", name := "<init>", desc := "([Ljava/lang/String;[Ljava/lang/String;[Ljava/lang/String;Lcom/example/weser/weser/core/TripleTable;Lcom/example/weser/weser/core/TripleTable;[Ljava/lang/String;Lcom/example/weser/weser/core/Prefixes;)V" } : Jvm.MethodName) prog_29_method_1_code (8 : Nat) (Option.none : Option Jvm.ClassFile.FieldType)).before args0 about1 = true := code_word (m := ⟨28, 0⟩) (meth := k28m0) (c := k28c0) (by decide +kernel) rfl rfl rfl (by decide +kernel)
set_option maxRecDepth 65536 in
theorem w_c23 : (Jvm.Cond.code ({ cls := "com/example/weser/weser/core/TripleTable", name := "subjects", desc := "()[I" } : Jvm.MethodName) prog_37_method_3_code (1 : Nat) (Option.some (Jvm.ClassFile.FieldType.array Jvm.ClassFile.FieldType.int))).before args0 about1 = true := code_word (m := ⟨9, 2⟩) (meth := k9m2) (c := k9c2) (by decide +kernel) rfl rfl rfl (by decide +kernel)
set_option maxRecDepth 65536 in
theorem w_c24 : (Jvm.Cond.code ({ cls := "java/util/Arrays", name := "copyOf", desc := "([II)[I" } : Jvm.MethodName) jdk_65_method_123_code (3 : Nat) (Option.some (Jvm.ClassFile.FieldType.array Jvm.ClassFile.FieldType.int))).before args0 about1 = true := code_word (m := ⟨30, 1⟩) (meth := k30m1) (c := k30c1) (by decide +kernel) rfl rfl rfl (by decide +kernel)
set_option maxRecDepth 65536 in
theorem w_c25 : (Jvm.Cond.code ({ cls := "java/lang/Math", name := "min", desc := "(II)I" } : Jvm.MethodName) jdk_29_method_69_code (2 : Nat) (Option.some Jvm.ClassFile.FieldType.int)).before args0 about1 = true := code_word (m := ⟨31, 1⟩) (meth := k31m1) (c := k31c1) (by decide +kernel) rfl rfl rfl (by decide +kernel)
set_option maxRecDepth 65536 in
theorem w_c26 : (Jvm.Cond.code ({ cls := "com/example/weser/weser/core/TripleTable", name := "predicates", desc := "()[I" } : Jvm.MethodName) prog_37_method_4_code (1 : Nat) (Option.some (Jvm.ClassFile.FieldType.array Jvm.ClassFile.FieldType.int))).before args0 about1 = true := code_word (m := ⟨9, 3⟩) (meth := k9m3) (c := k9c3) (by decide +kernel) rfl rfl rfl (by decide +kernel)
set_option maxRecDepth 65536 in
theorem w_c27 : (Jvm.Cond.code ({ cls := "com/example/weser/weser/core/TripleTable", name := "objects", desc := "()[I" } : Jvm.MethodName) prog_37_method_5_code (1 : Nat) (Option.some (Jvm.ClassFile.FieldType.array Jvm.ClassFile.FieldType.int))).before args0 about1 = true := code_word (m := ⟨9, 4⟩) (meth := k9m4) (c := k9c4) (by decide +kernel) rfl rfl rfl (by decide +kernel)
set_option maxRecDepth 65536 in
theorem w_c28 : (Jvm.Cond.code ({ cls := "com/example/weser/weser/core/TripleTable", name := "memberships", desc := "()Lcom/example/weser/weser/core/Memberships;" } : Jvm.MethodName) prog_37_method_6_code (8 : Nat) (Option.some (Jvm.ClassFile.FieldType.object "com/example/weser/weser/core/Memberships"))).before args0 about1 = true := code_word (m := ⟨9, 5⟩) (meth := k9m5) (c := k9c5) (by decide +kernel) rfl rfl rfl (by decide +kernel)
set_option maxRecDepth 65536 in
theorem w_c29 : (Jvm.Cond.code ({ cls := "java/util/HashSet", name := "size", desc := "()I" } : Jvm.MethodName) jdk_93_method_7_code (1 : Nat) (Option.some Jvm.ClassFile.FieldType.int)).before args0 about1 = true := code_word (m := ⟨16, 3⟩) (meth := k16m3) (c := k16c3) (by decide +kernel) rfl rfl rfl (by decide +kernel)
set_option maxRecDepth 65536 in
theorem w_c30 : (Jvm.Cond.code ({ cls := "java/util/HashMap", name := "size", desc := "()I" } : Jvm.MethodName) jdk_69_method_10_code (1 : Nat) (Option.some Jvm.ClassFile.FieldType.int)).before args0 about1 = true := code_word (m := ⟨22, 3⟩) (meth := k22m3) (c := k22c3) (by decide +kernel) rfl rfl rfl (by decide +kernel)
set_option maxRecDepth 65536 in
theorem w_c31 : (Jvm.Cond.code ({ cls := "java/util/HashSet", name := "iterator", desc := "()Ljava/util/Iterator;" } : Jvm.MethodName) jdk_93_method_6_code (1 : Nat) (Option.some (Jvm.ClassFile.FieldType.object "java/util/Iterator"))).before args0 about1 = true := code_word (m := ⟨16, 2⟩) (meth := k16m2) (c := k16c2) (by decide +kernel) rfl rfl rfl (by decide +kernel)
set_option maxRecDepth 65536 in
theorem w_c32 : (Jvm.Cond.code ({ cls := "java/util/LinkedHashMap", name := "keySet", desc := "()Ljava/util/Set;" } : Jvm.MethodName) jdk_94_method_24_code (1 : Nat) (Option.some (Jvm.ClassFile.FieldType.object "java/util/Set"))).before args0 about1 = true := code_word (m := ⟨24, 2⟩) (meth := k24m2) (c := k24c2) (by decide +kernel) rfl rfl rfl (by decide +kernel)
set_option maxRecDepth 65536 in
theorem w_c33 : (Jvm.Cond.code ({ cls := "java/util/LinkedHashMap", name := "sequencedKeySet", desc := "()Ljava/util/SequencedSet;" } : Jvm.MethodName) jdk_94_method_25_code (3 : Nat) (Option.some (Jvm.ClassFile.FieldType.object "java/util/SequencedSet"))).before args0 about1 = true := code_word (m := ⟨24, 3⟩) (meth := k24m3) (c := k24c3) (by decide +kernel) rfl rfl rfl (by decide +kernel)
set_option maxRecDepth 65536 in
theorem w_c34 : (Jvm.Cond.code ({ cls := "java/util/LinkedHashMap$LinkedKeySet", name := "<init>", desc := "(Ljava/util/LinkedHashMap;Z)V" } : Jvm.MethodName) jdk_112_method_1_code (3 : Nat) (Option.none : Option Jvm.ClassFile.FieldType)).before args0 about1 = true := code_word (m := ⟨33, 0⟩) (meth := k33m0) (c := k33c0) (by decide +kernel) rfl rfl rfl (by decide +kernel)
set_option maxRecDepth 65536 in
theorem w_c35 : (Jvm.Cond.code ({ cls := "java/util/LinkedHashMap$LinkedKeySet", name := "iterator", desc := "()Ljava/util/Iterator;" } : Jvm.MethodName) jdk_112_method_4_code (1 : Nat) (Option.some (Jvm.ClassFile.FieldType.object "java/util/Iterator"))).before args0 about1 = true := code_word (m := ⟨33, 1⟩) (meth := k33m1) (c := k33c1) (by decide +kernel) rfl rfl rfl (by decide +kernel)
set_option maxRecDepth 65536 in
theorem w_c36 : (Jvm.Cond.code ({ cls := "java/util/LinkedHashMap$LinkedKeyIterator", name := "<init>", desc := "(Ljava/util/LinkedHashMap;Z)V" } : Jvm.MethodName) jdk_2617_method_1_code (3 : Nat) (Option.none : Option Jvm.ClassFile.FieldType)).before args0 about1 = true := code_word (m := ⟨36, 0⟩) (meth := k36m0) (c := k36c0) (by decide +kernel) rfl rfl rfl (by decide +kernel)
set_option maxRecDepth 65536 in
theorem w_c37 : (Jvm.Cond.code ({ cls := "java/util/LinkedHashMap$LinkedHashIterator", name := "<init>", desc := "(Ljava/util/LinkedHashMap;Z)V" } : Jvm.MethodName) jdk_2616_method_1_code (3 : Nat) (Option.none : Option Jvm.ClassFile.FieldType)).before args0 about1 = true := code_word (m := ⟨34, 0⟩) (meth := k34m0) (c := k34c0) (by decide +kernel) rfl rfl rfl (by decide +kernel)
set_option maxRecDepth 65536 in
theorem w_c38 : (Jvm.Cond.code ({ cls := "java/util/LinkedHashMap$LinkedHashIterator", name := "hasNext", desc := "()Z" } : Jvm.MethodName) jdk_2616_method_2_code (1 : Nat) (Option.some Jvm.ClassFile.FieldType.boolean)).before args0 about1 = true := code_word (m := ⟨34, 1⟩) (meth := k34m1) (c := k34c1) (by decide +kernel) rfl rfl rfl (by decide +kernel)
set_option maxRecDepth 65536 in
theorem w_c39 : (Jvm.Cond.code ({ cls := "com/example/weser/weser/core/Memberships", name := "<init>", desc := "([I[I)V" } : Jvm.MethodName) prog_20_method_1_code (3 : Nat) (Option.none : Option Jvm.ClassFile.FieldType)).before args0 about1 = true := code_word (m := ⟨38, 0⟩) (meth := k38m0) (c := k38c0) (by decide +kernel) rfl rfl rfl (by decide +kernel)
set_option maxRecDepth 65536 in
theorem w_c40 : (Jvm.Cond.code ({ cls := "java/lang/Record", name := "<init>", desc := "()V" } : Jvm.MethodName) jdk_30_method_1_code (1 : Nat) (Option.none : Option Jvm.ClassFile.FieldType)).before args0 about1 = true := code_word (m := ⟨37, 0⟩) (meth := k37m0) (c := k37c0) (by decide +kernel) rfl rfl rfl (by decide +kernel)
set_option maxRecDepth 65536 in
theorem w_c41 : (Jvm.Cond.code ({ cls := "com/example/weser/weser/core/RdfGraph", name := "lexicalForm", desc := "(I)Ljava/lang/String;" } : Jvm.MethodName) prog_29_method_17_code (2 : Nat) (Option.some (Jvm.ClassFile.FieldType.object "java/lang/String"))).before args0 about1 = true := code_word (m := ⟨28, 1⟩) (meth := k28m1) (c := k28c1) (by decide +kernel) rfl rfl rfl (by decide +kernel)
set_option maxRecDepth 65536 in
theorem w_c42 : (Jvm.Cond.code ({ cls := "java/lang/String", name := "equals", desc := "(Ljava/lang/Object;)Z" } : Jvm.MethodName) jdk_42_method_66_code (3 : Nat) (Option.some Jvm.ClassFile.FieldType.boolean)).before args0 about1 = true := code_word (m := ⟨7, 1⟩) (meth := k7m1) (c := k7c1) (by decide +kernel) rfl rfl rfl (by decide +kernel)
def codes1 : List Jvm.Cond := [Jvm.Cond.code x code maxLocals ret, Jvm.Cond.code ({ cls := "java/lang/String", name := "valueOf", desc := "(C)Ljava/lang/String;" } : Jvm.MethodName) jdk_42_method_139_code (1 : Nat) (Option.some (Jvm.ClassFile.FieldType.object "java/lang/String")), Jvm.Cond.code ({ cls := "java/lang/StringLatin1", name := "canEncode", desc := "(C)Z" } : Jvm.MethodName) jdk_43_method_3_code (1 : Nat) (Option.some Jvm.ClassFile.FieldType.boolean), Jvm.Cond.code ({ cls := "java/lang/StringLatin1", name := "toBytes", desc := "(C)[B" } : Jvm.MethodName) jdk_43_method_46_code (1 : Nat) (Option.some (Jvm.ClassFile.FieldType.array Jvm.ClassFile.FieldType.byte)), Jvm.Cond.code ({ cls := "java/lang/String", name := "<init>", desc := "([BB)V" } : Jvm.MethodName) jdk_42_method_151_code (3 : Nat) (Option.none : Option Jvm.ClassFile.FieldType), Jvm.Cond.code ({ cls := "java/lang/Object", name := "<init>", desc := "()V" } : Jvm.MethodName) object_method_1_code (1 : Nat) (Option.none : Option Jvm.ClassFile.FieldType), Jvm.Cond.code ({ cls := "com/example/weser/weser/core/TripleTable", name := "<init>", desc := "()V" } : Jvm.MethodName) prog_37_method_1_code (1 : Nat) (Option.none : Option Jvm.ClassFile.FieldType), Jvm.Cond.code ({ cls := "java/util/LinkedHashSet", name := "<init>", desc := "()V" } : Jvm.MethodName) jdk_2620_method_3_code (1 : Nat) (Option.none : Option Jvm.ClassFile.FieldType), Jvm.Cond.code ({ cls := "java/util/HashSet", name := "<init>", desc := "(IFZ)V" } : Jvm.MethodName) jdk_93_method_5_code (4 : Nat) (Option.none : Option Jvm.ClassFile.FieldType), Jvm.Cond.code ({ cls := "java/util/AbstractSet", name := "<init>", desc := "()V" } : Jvm.MethodName) jdk_91_method_1_code (1 : Nat) (Option.none : Option Jvm.ClassFile.FieldType), Jvm.Cond.code ({ cls := "java/util/AbstractCollection", name := "<init>", desc := "()V" } : Jvm.MethodName) jdk_22_method_1_code (1 : Nat) (Option.none : Option Jvm.ClassFile.FieldType), Jvm.Cond.code ({ cls := "java/util/LinkedHashMap", name := "<init>", desc := "(IF)V" } : Jvm.MethodName) jdk_94_method_14_code (3 : Nat) (Option.none : Option Jvm.ClassFile.FieldType), Jvm.Cond.code ({ cls := "java/util/HashMap", name := "<init>", desc := "(IF)V" } : Jvm.MethodName) jdk_69_method_5_code (3 : Nat) (Option.none : Option Jvm.ClassFile.FieldType), Jvm.Cond.code ({ cls := "java/util/AbstractMap", name := "<init>", desc := "()V" } : Jvm.MethodName) jdk_71_method_1_code (1 : Nat) (Option.none : Option Jvm.ClassFile.FieldType), Jvm.Cond.code ({ cls := "java/lang/Float", name := "isNaN", desc := "(F)Z" } : Jvm.MethodName) jdk_118_method_6_code (1 : Nat) (Option.some Jvm.ClassFile.FieldType.boolean), Jvm.Cond.code ({ cls := "java/util/HashMap", name := "tableSizeFor", desc := "(I)I" } : Jvm.MethodName) jdk_69_method_4_code (2 : Nat) (Option.some Jvm.ClassFile.FieldType.int), Jvm.Cond.code ({ cls := "java/lang/Integer", name := "numberOfLeadingZeros", desc := "(I)I" } : Jvm.MethodName) jdk_33_method_47_code (2 : Nat) (Option.some Jvm.ClassFile.FieldType.int), Jvm.Cond.code ({ cls := "com/example/weser/weser/core/TripleTable", name := "add", desc := "(IIII)V" } : Jvm.MethodName) prog_37_method_2_code (8 : Nat) (Option.none : Option Jvm.ClassFile.FieldType), Jvm.Cond.code ({ cls := "com/example/weser/weser/core/TripleTable", name := "hash", desc := "(III)I" } : Jvm.MethodName) prog_37_method_8_code (4 : Nat) (Option.some Jvm.ClassFile.FieldType.int), Jvm.Cond.code ({ cls := "com/example/weser/weser/core/Prefixes", name := "<init>", desc := "()V" } : Jvm.MethodName) prog_25_method_1_code (1 : Nat) (Option.none : Option Jvm.ClassFile.FieldType), Jvm.Cond.code ({ cls := "java/util/LinkedHashMap", name := "<init>", desc := "()V" } : Jvm.MethodName) jdk_94_method_16_code (1 : Nat) (Option.none : Option Jvm.ClassFile.FieldType), Jvm.Cond.code ({ cls := "java/util/HashMap", name := "<init>", desc := "()V" } : Jvm.MethodName) jdk_69_method_7_code (1 : Nat) (Option.none : Option Jvm.ClassFile.FieldType), Jvm.Cond.code ({ cls := "com/example/weser/weser/core/RdfGraph", name := "<init>", desc := "([Ljava/lang/String;[Ljava/lang/String;[Ljava/lang/String;Lcom/example/weser/weser/core/TripleTable;Lcom/example/weser/weser/core/TripleTable;[Ljava/lang/String;Lcom/example/weser/weser/core/Prefixes;)V" } : Jvm.MethodName) prog_29_method_1_code (8 : Nat) (Option.none : Option Jvm.ClassFile.FieldType), Jvm.Cond.code ({ cls := "com/example/weser/weser/core/TripleTable", name := "subjects", desc := "()[I" } : Jvm.MethodName) prog_37_method_3_code (1 : Nat) (Option.some (Jvm.ClassFile.FieldType.array Jvm.ClassFile.FieldType.int)), Jvm.Cond.code ({ cls := "java/util/Arrays", name := "copyOf", desc := "([II)[I" } : Jvm.MethodName) jdk_65_method_123_code (3 : Nat) (Option.some (Jvm.ClassFile.FieldType.array Jvm.ClassFile.FieldType.int)), Jvm.Cond.code ({ cls := "java/lang/Math", name := "min", desc := "(II)I" } : Jvm.MethodName) jdk_29_method_69_code (2 : Nat) (Option.some Jvm.ClassFile.FieldType.int), Jvm.Cond.code ({ cls := "com/example/weser/weser/core/TripleTable", name := "predicates", desc := "()[I" } : Jvm.MethodName) prog_37_method_4_code (1 : Nat) (Option.some (Jvm.ClassFile.FieldType.array Jvm.ClassFile.FieldType.int)), Jvm.Cond.code ({ cls := "com/example/weser/weser/core/TripleTable", name := "objects", desc := "()[I" } : Jvm.MethodName) prog_37_method_5_code (1 : Nat) (Option.some (Jvm.ClassFile.FieldType.array Jvm.ClassFile.FieldType.int)), Jvm.Cond.code ({ cls := "com/example/weser/weser/core/TripleTable", name := "memberships", desc := "()Lcom/example/weser/weser/core/Memberships;" } : Jvm.MethodName) prog_37_method_6_code (8 : Nat) (Option.some (Jvm.ClassFile.FieldType.object "com/example/weser/weser/core/Memberships")), Jvm.Cond.code ({ cls := "java/util/HashSet", name := "size", desc := "()I" } : Jvm.MethodName) jdk_93_method_7_code (1 : Nat) (Option.some Jvm.ClassFile.FieldType.int), Jvm.Cond.code ({ cls := "java/util/HashMap", name := "size", desc := "()I" } : Jvm.MethodName) jdk_69_method_10_code (1 : Nat) (Option.some Jvm.ClassFile.FieldType.int), Jvm.Cond.code ({ cls := "java/util/HashSet", name := "iterator", desc := "()Ljava/util/Iterator;" } : Jvm.MethodName) jdk_93_method_6_code (1 : Nat) (Option.some (Jvm.ClassFile.FieldType.object "java/util/Iterator")), Jvm.Cond.code ({ cls := "java/util/LinkedHashMap", name := "keySet", desc := "()Ljava/util/Set;" } : Jvm.MethodName) jdk_94_method_24_code (1 : Nat) (Option.some (Jvm.ClassFile.FieldType.object "java/util/Set")), Jvm.Cond.code ({ cls := "java/util/LinkedHashMap", name := "sequencedKeySet", desc := "()Ljava/util/SequencedSet;" } : Jvm.MethodName) jdk_94_method_25_code (3 : Nat) (Option.some (Jvm.ClassFile.FieldType.object "java/util/SequencedSet")), Jvm.Cond.code ({ cls := "java/util/LinkedHashMap$LinkedKeySet", name := "<init>", desc := "(Ljava/util/LinkedHashMap;Z)V" } : Jvm.MethodName) jdk_112_method_1_code (3 : Nat) (Option.none : Option Jvm.ClassFile.FieldType), Jvm.Cond.code ({ cls := "java/util/LinkedHashMap$LinkedKeySet", name := "iterator", desc := "()Ljava/util/Iterator;" } : Jvm.MethodName) jdk_112_method_4_code (1 : Nat) (Option.some (Jvm.ClassFile.FieldType.object "java/util/Iterator")), Jvm.Cond.code ({ cls := "java/util/LinkedHashMap$LinkedKeyIterator", name := "<init>", desc := "(Ljava/util/LinkedHashMap;Z)V" } : Jvm.MethodName) jdk_2617_method_1_code (3 : Nat) (Option.none : Option Jvm.ClassFile.FieldType), Jvm.Cond.code ({ cls := "java/util/LinkedHashMap$LinkedHashIterator", name := "<init>", desc := "(Ljava/util/LinkedHashMap;Z)V" } : Jvm.MethodName) jdk_2616_method_1_code (3 : Nat) (Option.none : Option Jvm.ClassFile.FieldType), Jvm.Cond.code ({ cls := "java/util/LinkedHashMap$LinkedHashIterator", name := "hasNext", desc := "()Z" } : Jvm.MethodName) jdk_2616_method_2_code (1 : Nat) (Option.some Jvm.ClassFile.FieldType.boolean), Jvm.Cond.code ({ cls := "com/example/weser/weser/core/Memberships", name := "<init>", desc := "([I[I)V" } : Jvm.MethodName) prog_20_method_1_code (3 : Nat) (Option.none : Option Jvm.ClassFile.FieldType), Jvm.Cond.code ({ cls := "java/lang/Record", name := "<init>", desc := "()V" } : Jvm.MethodName) jdk_30_method_1_code (1 : Nat) (Option.none : Option Jvm.ClassFile.FieldType), Jvm.Cond.code ({ cls := "com/example/weser/weser/core/RdfGraph", name := "lexicalForm", desc := "(I)Ljava/lang/String;" } : Jvm.MethodName) prog_29_method_17_code (2 : Nat) (Option.some (Jvm.ClassFile.FieldType.object "java/lang/String")), Jvm.Cond.code ({ cls := "java/lang/String", name := "equals", desc := "(Ljava/lang/Object;)Z" } : Jvm.MethodName) jdk_42_method_66_code (3 : Nat) (Option.some Jvm.ClassFile.FieldType.boolean)]
set_option maxRecDepth 65536 in
theorem codes_eq : words1.filter isCode = codes1 := rfl
theorem w_codes : ∀ c ∈ words1.filter isCode, c.before args0 about1 = true := by
  rw [codes_eq]
  intro c hc
  simp only [codes1, List.mem_cons, List.not_mem_nil, or_false] at hc
  rcases hc with rfl | rfl | rfl | rfl | rfl | rfl | rfl | rfl | rfl | rfl | rfl | rfl | rfl | rfl | rfl | rfl | rfl | rfl | rfl | rfl | rfl | rfl | rfl | rfl | rfl | rfl | rfl | rfl | rfl | rfl | rfl | rfl | rfl | rfl | rfl | rfl | rfl | rfl | rfl | rfl | rfl | rfl | rfl
  · exact w_c0
  · exact w_c1
  · exact w_c2
  · exact w_c3
  · exact w_c4
  · exact w_c5
  · exact w_c6
  · exact w_c7
  · exact w_c8
  · exact w_c9
  · exact w_c10
  · exact w_c11
  · exact w_c12
  · exact w_c13
  · exact w_c14
  · exact w_c15
  · exact w_c16
  · exact w_c17
  · exact w_c18
  · exact w_c19
  · exact w_c20
  · exact w_c21
  · exact w_c22
  · exact w_c23
  · exact w_c24
  · exact w_c25
  · exact w_c26
  · exact w_c27
  · exact w_c28
  · exact w_c29
  · exact w_c30
  · exact w_c31
  · exact w_c32
  · exact w_c33
  · exact w_c34
  · exact w_c35
  · exact w_c36
  · exact w_c37
  · exact w_c38
  · exact w_c39
  · exact w_c40
  · exact w_c41
  · exact w_c42
set_option maxRecDepth 65536 in
theorem w_t1 : (words1.take 24).all (fun c => isCode c || c.before args0 about1) = true := by decide +kernel
set_option maxRecDepth 65536 in
theorem w_t2 : ((words1.drop 24).take 24).all (fun c => isCode c || c.before args0 about1) = true := by decide +kernel
set_option maxRecDepth 65536 in
theorem w_t3 : (((words1.drop 24).drop 24).take 24).all (fun c => isCode c || c.before args0 about1) = true := by decide +kernel
set_option maxRecDepth 65536 in
theorem w_t4 : ((((words1.drop 24).drop 24).drop 24).take 24).all (fun c => isCode c || c.before args0 about1) = true := by decide +kernel
set_option maxRecDepth 65536 in
theorem w_t5 : (((((words1.drop 24).drop 24).drop 24).drop 24).take 24).all (fun c => isCode c || c.before args0 about1) = true := by decide +kernel
set_option maxRecDepth 65536 in
theorem w_t6 : ((((((words1.drop 24).drop 24).drop 24).drop 24).drop 24).take 24).all (fun c => isCode c || c.before args0 about1) = true := by decide +kernel
set_option maxRecDepth 65536 in
theorem w_t7 : (((((((words1.drop 24).drop 24).drop 24).drop 24).drop 24).drop 24).take 24).all (fun c => isCode c || c.before args0 about1) = true := by decide +kernel
set_option maxRecDepth 65536 in
theorem w_t8 : ((((((((words1.drop 24).drop 24).drop 24).drop 24).drop 24).drop 24).drop 24).take 24).all (fun c => isCode c || c.before args0 about1) = true := by decide +kernel
set_option maxRecDepth 65536 in
theorem w_t9 : (((((((((words1.drop 24).drop 24).drop 24).drop 24).drop 24).drop 24).drop 24).drop 24).take 24).all (fun c => isCode c || c.before args0 about1) = true := by decide +kernel
set_option maxRecDepth 65536 in
theorem w_t10 : ((((((((((words1.drop 24).drop 24).drop 24).drop 24).drop 24).drop 24).drop 24).drop 24).drop 24).take 24).all (fun c => isCode c || c.before args0 about1) = true := by decide +kernel
set_option maxRecDepth 65536 in
theorem w_t11 : (((((((((((words1.drop 24).drop 24).drop 24).drop 24).drop 24).drop 24).drop 24).drop 24).drop 24).drop 24).take 24).all (fun c => isCode c || c.before args0 about1) = true := by decide +kernel
set_option maxRecDepth 65536 in
theorem w_t12 : ((((((((((((words1.drop 24).drop 24).drop 24).drop 24).drop 24).drop 24).drop 24).drop 24).drop 24).drop 24).drop 24).take 24).all (fun c => isCode c || c.before args0 about1) = true := by decide +kernel
set_option maxRecDepth 65536 in
theorem w_t13 : (((((((((((((words1.drop 24).drop 24).drop 24).drop 24).drop 24).drop 24).drop 24).drop 24).drop 24).drop 24).drop 24).drop 24).take 24).all (fun c => isCode c || c.before args0 about1) = true := by decide +kernel
set_option maxRecDepth 65536 in
theorem w_t14 : ((((((((((((((words1.drop 24).drop 24).drop 24).drop 24).drop 24).drop 24).drop 24).drop 24).drop 24).drop 24).drop 24).drop 24).drop 24).take 24).all (fun c => isCode c || c.before args0 about1) = true := by decide +kernel
set_option maxRecDepth 65536 in
theorem w_t15 : ((((((((((((((words1.drop 24).drop 24).drop 24).drop 24).drop 24).drop 24).drop 24).drop 24).drop 24).drop 24).drop 24).drop 24).drop 24).drop 24).all (fun c => isCode c || c.before args0 about1) = true := by decide +kernel
theorem w_tables : (allAtoms (Jvm.Cond.code x code maxLocals ret :: tables_1)).before args0 about1 = true := by
  rw [allAtoms_all]
  show words1.all (fun c => c.before args0 about1) = true
  refine all_split ?_ w_codes
  rw [← List.take_append_drop 24 words1, List.all_append, w_t1, ← List.take_append_drop 24 (words1.drop 24), List.all_append, w_t2, ← List.take_append_drop 24 ((words1.drop 24).drop 24), List.all_append, w_t3, ← List.take_append_drop 24 (((words1.drop 24).drop 24).drop 24), List.all_append, w_t4, ← List.take_append_drop 24 ((((words1.drop 24).drop 24).drop 24).drop 24), List.all_append, w_t5, ← List.take_append_drop 24 (((((words1.drop 24).drop 24).drop 24).drop 24).drop 24), List.all_append, w_t6, ← List.take_append_drop 24 ((((((words1.drop 24).drop 24).drop 24).drop 24).drop 24).drop 24), List.all_append, w_t7, ← List.take_append_drop 24 (((((((words1.drop 24).drop 24).drop 24).drop 24).drop 24).drop 24).drop 24), List.all_append, w_t8, ← List.take_append_drop 24 ((((((((words1.drop 24).drop 24).drop 24).drop 24).drop 24).drop 24).drop 24).drop 24), List.all_append, w_t9, ← List.take_append_drop 24 (((((((((words1.drop 24).drop 24).drop 24).drop 24).drop 24).drop 24).drop 24).drop 24).drop 24), List.all_append, w_t10, ← List.take_append_drop 24 ((((((((((words1.drop 24).drop 24).drop 24).drop 24).drop 24).drop 24).drop 24).drop 24).drop 24).drop 24), List.all_append, w_t11, ← List.take_append_drop 24 (((((((((((words1.drop 24).drop 24).drop 24).drop 24).drop 24).drop 24).drop 24).drop 24).drop 24).drop 24).drop 24), List.all_append, w_t12, ← List.take_append_drop 24 ((((((((((((words1.drop 24).drop 24).drop 24).drop 24).drop 24).drop 24).drop 24).drop 24).drop 24).drop 24).drop 24).drop 24), List.all_append, w_t13, ← List.take_append_drop 24 (((((((((((((words1.drop 24).drop 24).drop 24).drop 24).drop 24).drop 24).drop 24).drop 24).drop 24).drop 24).drop 24).drop 24).drop 24), List.all_append, w_t14, w_t15]
  rfl
set_option maxRecDepth 65536 in
theorem w_rest : rest_1_c.before args0 about1 = true := by decide +kernel
set_option maxRecDepth 65536 in
theorem w_case : (Jvm.Cond.and given_1 narrow_1).before args0 about1 = true := by decide +kernel
theorem w_applies : (headSpec (Jvm.Cond.code x code maxLocals ret :: tables_1) room_1).applies x e0.platform about1 = true :=
  (Spec.applies_iff w_frames).mpr ⟨w_running, w_runnable, w_alone, w_named, w_hears, w_ripe, w_room, w_tables⟩
theorem atStart : AtStart classFile x code maxLocals ret World_1 tables_1 room_1 Calls_1 rest_1 Pre_1 launch0 p0 e0 about1 theMethod args0 below0 :=
  ⟨lists_1, trivial, launch0.admits_env _ _ _, launch0.least_env, fairChoices_fair.cas, fairChoices_fair.clock, w_frames, w_args, w_heap, w_applies, trivial, w_rest, w_case⟩
end start1
theorem witness_1 : WitnessClaimed_1 := ⟨start1.p0, start1.e0, start1.about1, start1.theMethod, start1.args0, start1.below0, start1.atStart⟩
end Jvm.Pilot.@@N@@
