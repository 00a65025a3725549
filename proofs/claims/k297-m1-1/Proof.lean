import JvmDerived
import JvmDerived.Pilot.@@N@@Statement
import JvmDerived.Pilot.@@N@@Code
set_option linter.unusedVariables false
set_option linter.unusedSimpArgs false
@@BLOCK:NumsL.lean.txt@@
namespace Jvm.RoadKit
open Sem ClassFile Op Lib Jvm.Stand Jvm.Free Jvm.LawKit
section New
variable {p : Program} {l : Launch} {e : Env} {R : Room} {s : State} {m : MethodId} {args : Array Value} {below : List Frame} {meth : Method} {c : Code} {T : State} {locs : List Loc} {cells slots : Nat}
theorem retI (X : Stand p l e R s m args below meth c T locs cells slots) (hx : p.tables.exec = Jvm.exec) {pc : Nat} {Ls : Array Slot} {z : Int32} {rest : List Value} (hret : meth.sig.returnType = some .int) (hd : decode c.code pc = .ok (.ireturn, 1)) {fs : List Frame}
    (hl : ∀ (f : JFrame) (acts : List Action), f.method = m → f.locked = none → f.entered = [] → (doReturn e (T.setTop f) acts (some (.int z))).1 = T.setFrames fs) : Steps p.tables e below (T.setTop (mkF m pc Ls (.int z :: rest))) (T.setFrames fs) := by
  have hm' : T.vm.method? m = some meth := X.method'
  have hn : narrow .int (.int z) = .int z := rfl
  show Steps p.tables e below (T.setTop { method := m, pc := pc, locals := Ls, stack := _ :: rest, locked := none }) _
  jvm_step X.here [X.here.top, hx, hd, hm', hret, hn]
  first | (intro acts; rw [hl _ acts rfl rfl rfl]) | rw [hl _ _ rfl rfl rfl]
  exact Steps.refl _
end New
end Jvm.RoadKit
namespace Jvm.Pilot.@@N@@
open Jvm Jvm.ClassFile Sem Op Lib Jvm.Free Jvm.Stand Jvm.LawKit Jvm.RoadKit Bundle Jvm.Pilot.@@N@@.Jvm.D
/-- the run from this frame comes to an end that R takes -/
def own_Fin (tb : Tables) (e : Env) (below : List Frame) (R : State → Prop) (T : State) (g : JFrame) : Prop := ∃ t, Steps tb e below (T.setTop g) t ∧ R t
theorem own_st {tb : Tables} {e : Env} {below : List Frame} {R : State → Prop} {T T' : State} {g g' : JFrame} (h : own_Fin tb e below R T' g') (k : ∀ t, Steps tb e below (T'.setTop g') t → Steps tb e below (T.setTop g) t) : own_Fin tb e below R T g := by
  obtain ⟨t, a, b⟩ := h
  exact ⟨t, k t a, b⟩
def own_End (below : List Frame) (s : State) (Q : Option Value → Heap → List Loc → Prop) (cells slots : Nat) (t : State) : Prop := t.status = .running ∧ ∃ o, Ended t below o ∧ ∃ v L, o = .returned v ∧ Q v t.heap L ∧ FrameEnd s o t L cells slots
/-- a body that writes nothing -/
def own_P (h0 : Heap) (n0 : Nat) (w : Option Value) (v : Option Value) (h : Heap) (L : List Loc) : Prop := v = w ∧ Fr n0 L ∧ h = h0
theorem own_cast {tb : Tables} {e : Env} {below : List Frame} {R R' : State → Prop} {T : State} {g : JFrame} (q : R' = R) (h : own_Fin tb e below R' T g) : own_Fin tb e below R T g := q ▸ h
/-- the law: what it returns, and nothing old is written -/
def own_L (n0 : Nat) (w : Value) (v : Option Value) (h : Heap) (L : List Loc) : Prop := v = some w ∧ Fr n0 L
theorem own_lcW (a b : Int64) : lcmpW a b = if a > b then 1 else if a = b then 0 else -1 := rfl
theorem own_lc_lt {a b : Int64} : lcmpW a b < 0 ↔ a < b := by
  rw [own_lcW]
  by_cases h1 : a > b
  · rw [if_pos h1]
    exact ⟨fun h => absurd h (by decide), fun h => absurd (Int64.lt_trans h h1) Int64.lt_irrefl⟩
  · rw [if_neg h1]
    by_cases h2 : a = b
    · rw [if_pos h2]
      exact ⟨fun h => absurd h (by decide), fun h => absurd (h2 ▸ h) Int64.lt_irrefl⟩
    · rw [if_neg h2]
      refine ⟨fun _ => ?_, fun _ => by decide⟩
      rw [Int64.lt_iff_toInt_lt] at *
      have h3 : a.toInt ≠ b.toInt := fun q => h2 (Int64.toInt_inj.mp q)
      have h4 : ¬ b.toInt < a.toInt := fun q => h1 (Int64.lt_iff_toInt_lt.mpr q)
      omega
theorem own_lc_gt {a b : Int64} : 0 < lcmpW a b ↔ b < a := by
  rw [own_lcW]
  by_cases h1 : a > b
  · rw [if_pos h1]; exact ⟨fun _ => h1, fun _ => by decide⟩
  · rw [if_neg h1]
    by_cases h2 : a = b
    · rw [if_pos h2]; exact ⟨fun h => absurd h (by decide), fun h => absurd h h1⟩
    · rw [if_neg h2]; exact ⟨fun h => absurd h (by decide), fun h => absurd h h1⟩
theorem own_lc_eq {a b : Int64} : lcmpW a b = 0 ↔ a = b := by
  rw [own_lcW]
  by_cases h1 : a > b
  · rw [if_pos h1]; exact ⟨fun h => absurd h (by decide), fun h => absurd (h ▸ h1 : a > a) Int64.lt_irrefl⟩
  · rw [if_neg h1]
    by_cases h2 : a = b
    · rw [if_pos h2]; exact ⟨fun _ => h2, fun _ => rfl⟩
    · rw [if_neg h2]; exact ⟨fun h => absurd h (by decide), fun h => absurd h h2⟩
def own_EndW (below : List Frame) (s : State) (Q : Option Value → Heap → List Loc → Prop) (cells slots : Nat) (t : State) : Prop := t.status = .running ∧ ∃ o, Ended t below o ∧ ∃ v L, o = .returned v ∧ Q v t.heap L ∧ ReturnedEndW s o t L cells slots
theorem own_fr {tb : Tables} {e : Env} {below : List Frame} {R : State → Prop} {T : State} {g g' : JFrame} (q : g' = g) (h : own_Fin tb e below R T g') : own_Fin tb e below R T g := q ▸ h
theorem own_irr32 (x : Int32) : ¬ x < x := Int32.lt_irrefl
theorem own_irr64 (x : Int64) : ¬ x < x := Int64.lt_irrefl
def own_ush32 (x y : Int32) : Int32 := (x.toUInt32 >>> (y &&& 31).toUInt32).toInt32
def own_ush64 (x : Int64) (y : Int32) : Int64 := (x.toUInt64 >>> (y &&& 0x3f).toInt64.toUInt64).toInt64
section OwnStep
variable {p : Program} {l : Launch} {e : Env} {R : Room} {s : State} {m : MethodId} {args : Array Value} {below : List Frame} {meth : Method} {c : Code} {T : State} {locs : List Loc} {kc ks : Nat} {Rr : State → Prop} {Ls Ls' : Array Slot} {st : List Value} {pc pc' : Nat} {Z : State} {a0 : Array Value} {h : Heap}
theorem own_iload (X : Stand p l e R s m args below meth c T locs kc ks) (hx : p.tables.exec = Jvm.exec) {j : Nat} {v : Int32} (hd : decode c.code pc = .ok (.iload j, 2)) (hp : pc + 2 = pc') (hl : Ls[j]? = some (.val (.int v))) (h : own_Fin p.tables e below Rr T (mkF m pc' Ls (.int v :: st))) : own_Fin p.tables e below Rr T (mkF m pc Ls st) := by
  subst hp; exact own_st h (fun t k => XS.iload X.here hx rfl hd hl k)
theorem own_iloadN (X : Stand p l e R s m args below meth c T locs kc ks) (hx : p.tables.exec = Jvm.exec) {j : Fin 4} {v : Int32} (hd : decode c.code pc = .ok (.iload_n j, 1)) (hp : pc + 1 = pc') (hl : Ls[j.val]? = some (.val (.int v))) (h : own_Fin p.tables e below Rr T (mkF m pc' Ls (.int v :: st))) : own_Fin p.tables e below Rr T (mkF m pc Ls st) := by
  subst hp; exact own_st h (fun t k => XS.iloadN X.here hx rfl hd hl k)
theorem own_istore (X : Stand p l e R s m args below meth c T locs kc ks) (hx : p.tables.exec = Jvm.exec) {j : Nat} {v : Int32} (hd : decode c.code pc = .ok (.istore j, 2)) (hp : pc + 2 = pc') (hl : storeLocals Ls j (.int v) = some Ls') (h : own_Fin p.tables e below Rr T (mkF m pc' Ls' st)) : own_Fin p.tables e below Rr T (mkF m pc Ls (.int v :: st)) := by
  subst hp; exact own_st h (fun t k => XS.istore X.here hx rfl hd rfl hl k)
theorem own_istoreN (X : Stand p l e R s m args below meth c T locs kc ks) (hx : p.tables.exec = Jvm.exec) {j : Fin 4} {v : Int32} (hd : decode c.code pc = .ok (.istore_n j, 1)) (hp : pc + 1 = pc') (hl : storeLocals Ls j.val (.int v) = some Ls') (h : own_Fin p.tables e below Rr T (mkF m pc' Ls' st)) : own_Fin p.tables e below Rr T (mkF m pc Ls (.int v :: st)) := by
  subst hp; exact own_st h (fun t k => XS.istoreN X.here hx rfl hd rfl hl k)
theorem own_lload (X : Stand p l e R s m args below meth c T locs kc ks) (hx : p.tables.exec = Jvm.exec) {j : Nat} {v : Int64} (hd : decode c.code pc = .ok (.lload j, 2)) (hp : pc + 2 = pc') (hl : Ls[j]? = some (.val (.long v))) (h : own_Fin p.tables e below Rr T (mkF m pc' Ls (.long v :: st))) : own_Fin p.tables e below Rr T (mkF m pc Ls st) := by
  subst hp; exact own_st h (fun t k => XS.lload X.here hx rfl hd hl k)
theorem own_lloadN (X : Stand p l e R s m args below meth c T locs kc ks) (hx : p.tables.exec = Jvm.exec) {j : Fin 4} {v : Int64} (hd : decode c.code pc = .ok (.lload_n j, 1)) (hp : pc + 1 = pc') (hl : Ls[j.val]? = some (.val (.long v))) (h : own_Fin p.tables e below Rr T (mkF m pc' Ls (.long v :: st))) : own_Fin p.tables e below Rr T (mkF m pc Ls st) := by
  subst hp; exact own_st h (fun t k => XS.lloadN X.here hx rfl hd hl k)
theorem own_lstore (X : Stand p l e R s m args below meth c T locs kc ks) (hx : p.tables.exec = Jvm.exec) {j : Nat} {v : Int64} (hd : decode c.code pc = .ok (.lstore j, 2)) (hp : pc + 2 = pc') (hl : storeLocals Ls j (.long v) = some Ls') (h : own_Fin p.tables e below Rr T (mkF m pc' Ls' st)) : own_Fin p.tables e below Rr T (mkF m pc Ls (.long v :: st)) := by
  subst hp; exact own_st h (fun t k => XS.lstore X.here hx rfl hd rfl hl k)
theorem own_lstoreN (X : Stand p l e R s m args below meth c T locs kc ks) (hx : p.tables.exec = Jvm.exec) {j : Fin 4} {v : Int64} (hd : decode c.code pc = .ok (.lstore_n j, 1)) (hp : pc + 1 = pc') (hl : storeLocals Ls j.val (.long v) = some Ls') (h : own_Fin p.tables e below Rr T (mkF m pc' Ls' st)) : own_Fin p.tables e below Rr T (mkF m pc Ls (.long v :: st)) := by
  subst hp; exact own_st h (fun t k => XS.lstoreN X.here hx rfl hd rfl hl k)
theorem own_aload (X : Stand p l e R s m args below meth c T locs kc ks) (hx : p.tables.exec = Jvm.exec) {j : Nat} {v : Value} (hd : decode c.code pc = .ok (.aload j, 2)) (hp : pc + 2 = pc') (hl : Ls[j]? = some (.val v)) (hv : v.isRef = true) (h : own_Fin p.tables e below Rr T (mkF m pc' Ls (v :: st))) : own_Fin p.tables e below Rr T (mkF m pc Ls st) := by
  subst hp; exact own_st h (fun t k => XS.aload X.here hx rfl hd hl hv k)
theorem own_aloadN (X : Stand p l e R s m args below meth c T locs kc ks) (hx : p.tables.exec = Jvm.exec) {j : Fin 4} {v : Value} (hd : decode c.code pc = .ok (.aload_n j, 1)) (hp : pc + 1 = pc') (hl : Ls[j.val]? = some (.val v)) (hv : v.isRef = true) (h : own_Fin p.tables e below Rr T (mkF m pc' Ls (v :: st))) : own_Fin p.tables e below Rr T (mkF m pc Ls st) := by
  subst hp; exact own_st h (fun t k => XS.aloadN X.here hx rfl hd hl hv k)
theorem own_astore (X : Stand p l e R s m args below meth c T locs kc ks) (hx : p.tables.exec = Jvm.exec) {j : Nat} {v : Value} (hd : decode c.code pc = .ok (.astore j, 2)) (hp : pc + 2 = pc') (hv : v.isRef = true) (hl : storeLocals Ls j v = some Ls') (h : own_Fin p.tables e below Rr T (mkF m pc' Ls' st)) : own_Fin p.tables e below Rr T (mkF m pc Ls (v :: st)) := by
  subst hp; exact own_st h (fun t k => XS.astore X.here hx rfl hd rfl hv hl k)
theorem own_astoreN (X : Stand p l e R s m args below meth c T locs kc ks) (hx : p.tables.exec = Jvm.exec) {j : Fin 4} {v : Value} (hd : decode c.code pc = .ok (.astore_n j, 1)) (hp : pc + 1 = pc') (hv : v.isRef = true) (hl : storeLocals Ls j.val v = some Ls') (h : own_Fin p.tables e below Rr T (mkF m pc' Ls' st)) : own_Fin p.tables e below Rr T (mkF m pc Ls (v :: st)) := by
  subst hp; exact own_st h (fun t k => XS.astoreN X.here hx rfl hd rfl hv hl k)
theorem own_iconst (X : Stand p l e R s m args below meth c T locs kc ks) (hx : p.tables.exec = Jvm.exec) {i : Int} {v : Int32} (hd : decode c.code pc = .ok (.iconst i, 1)) (hp : pc + 1 = pc') (hv : Int32.ofInt i = v) (h : own_Fin p.tables e below Rr T (mkF m pc' Ls (.int v :: st))) : own_Fin p.tables e below Rr T (mkF m pc Ls st) := by
  subst hp; exact own_st h (fun t k => XS.iconst X.here hx rfl hd (hv ▸ k))
theorem own_bipush (X : Stand p l e R s m args below meth c T locs kc ks) (hx : p.tables.exec = Jvm.exec) {i : Int} {v : Int32} (hd : decode c.code pc = .ok (.bipush i, 2)) (hp : pc + 2 = pc') (hv : (Int8.ofInt i).toInt32 = v) (h : own_Fin p.tables e below Rr T (mkF m pc' Ls (.int v :: st))) : own_Fin p.tables e below Rr T (mkF m pc Ls st) := by
  subst hp; exact own_st h (fun t k => XS.bipush X.here hx rfl hd (hv ▸ k))
theorem own_sipush (X : Stand p l e R s m args below meth c T locs kc ks) (hx : p.tables.exec = Jvm.exec) {i : Int} {v : Int32} (hd : decode c.code pc = .ok (.sipush i, 3)) (hp : pc + 3 = pc') (hv : (Int16.ofInt i).toInt32 = v) (h : own_Fin p.tables e below Rr T (mkF m pc' Ls (.int v :: st))) : own_Fin p.tables e below Rr T (mkF m pc Ls st) := by
  subst hp; exact own_st h (fun t k => XS.sipush X.here hx rfl hd (hv ▸ k))
theorem own_lconst (X : Stand p l e R s m args below meth c T locs kc ks) (hx : p.tables.exec = Jvm.exec) {i : Fin 2} {v : Int64} (hd : decode c.code pc = .ok (.lconst i, 1)) (hp : pc + 1 = pc') (hv : Int64.ofNat i = v) (h : own_Fin p.tables e below Rr T (mkF m pc' Ls (.long v :: st))) : own_Fin p.tables e below Rr T (mkF m pc Ls st) := by
  subst hp; exact own_st h (fun t k => XS.lconst X.here hx rfl hd (hv ▸ k))
theorem own_aconstNull (X : Stand p l e R s m args below meth c T locs kc ks) (hx : p.tables.exec = Jvm.exec)  (hd : decode c.code pc = .ok (.aconst_null, 1)) (hp : pc + 1 = pc')  (h : own_Fin p.tables e below Rr T (mkF m pc' Ls (.null :: st))) : own_Fin p.tables e below Rr T (mkF m pc Ls st) := by
  subst hp; exact own_st h (fun t k => XS.aconstNull X.here hx rfl hd k)
theorem own_iadd (X : Stand p l e R s m args below meth c T locs kc ks) (hx : p.tables.exec = Jvm.exec) {x y : Int32} (hd : decode c.code pc = .ok (.iadd, 1)) (hp : pc + 1 = pc')  (h : own_Fin p.tables e below Rr T (mkF m pc' Ls (.int (x + y) :: st))) : own_Fin p.tables e below Rr T (mkF m pc Ls (.int y :: .int x :: st)) := by
  subst hp; exact own_st h (fun t k => XS.iadd X.here hx rfl hd rfl k)
theorem own_ladd (X : Stand p l e R s m args below meth c T locs kc ks) (hx : p.tables.exec = Jvm.exec) {x y : Int64} (hd : decode c.code pc = .ok (.ladd, 1)) (hp : pc + 1 = pc')  (h : own_Fin p.tables e below Rr T (mkF m pc' Ls (.long (x + y) :: st))) : own_Fin p.tables e below Rr T (mkF m pc Ls (.long y :: .long x :: st)) := by
  subst hp; exact own_st h (fun t k => XS.ladd X.here hx rfl hd rfl k)
theorem own_isub (X : Stand p l e R s m args below meth c T locs kc ks) (hx : p.tables.exec = Jvm.exec) {x y : Int32} (hd : decode c.code pc = .ok (.isub, 1)) (hp : pc + 1 = pc')  (h : own_Fin p.tables e below Rr T (mkF m pc' Ls (.int (x - y) :: st))) : own_Fin p.tables e below Rr T (mkF m pc Ls (.int y :: .int x :: st)) := by
  subst hp; exact own_st h (fun t k => XS.isub X.here hx rfl hd rfl k)
theorem own_lsub (X : Stand p l e R s m args below meth c T locs kc ks) (hx : p.tables.exec = Jvm.exec) {x y : Int64} (hd : decode c.code pc = .ok (.lsub, 1)) (hp : pc + 1 = pc')  (h : own_Fin p.tables e below Rr T (mkF m pc' Ls (.long (x - y) :: st))) : own_Fin p.tables e below Rr T (mkF m pc Ls (.long y :: .long x :: st)) := by
  subst hp; exact own_st h (fun t k => XS.lsub X.here hx rfl hd rfl k)
theorem own_imul (X : Stand p l e R s m args below meth c T locs kc ks) (hx : p.tables.exec = Jvm.exec) {x y : Int32} (hd : decode c.code pc = .ok (.imul, 1)) (hp : pc + 1 = pc')  (h : own_Fin p.tables e below Rr T (mkF m pc' Ls (.int (x * y) :: st))) : own_Fin p.tables e below Rr T (mkF m pc Ls (.int y :: .int x :: st)) := by
  subst hp; exact own_st h (fun t k => XS.imul X.here hx rfl hd rfl k)
theorem own_lmul (X : Stand p l e R s m args below meth c T locs kc ks) (hx : p.tables.exec = Jvm.exec) {x y : Int64} (hd : decode c.code pc = .ok (.lmul, 1)) (hp : pc + 1 = pc')  (h : own_Fin p.tables e below Rr T (mkF m pc' Ls (.long (x * y) :: st))) : own_Fin p.tables e below Rr T (mkF m pc Ls (.long y :: .long x :: st)) := by
  subst hp; exact own_st h (fun t k => XS.lmul X.here hx rfl hd rfl k)
theorem own_iand (X : Stand p l e R s m args below meth c T locs kc ks) (hx : p.tables.exec = Jvm.exec) {x y : Int32} (hd : decode c.code pc = .ok (.iand, 1)) (hp : pc + 1 = pc')  (h : own_Fin p.tables e below Rr T (mkF m pc' Ls (.int (x &&& y) :: st))) : own_Fin p.tables e below Rr T (mkF m pc Ls (.int y :: .int x :: st)) := by
  subst hp; exact own_st h (fun t k => XS.iand X.here hx rfl hd rfl k)
theorem own_land (X : Stand p l e R s m args below meth c T locs kc ks) (hx : p.tables.exec = Jvm.exec) {x y : Int64} (hd : decode c.code pc = .ok (.land, 1)) (hp : pc + 1 = pc')  (h : own_Fin p.tables e below Rr T (mkF m pc' Ls (.long (x &&& y) :: st))) : own_Fin p.tables e below Rr T (mkF m pc Ls (.long y :: .long x :: st)) := by
  subst hp; exact own_st h (fun t k => XS.land X.here hx rfl hd rfl k)
theorem own_ior (X : Stand p l e R s m args below meth c T locs kc ks) (hx : p.tables.exec = Jvm.exec) {x y : Int32} (hd : decode c.code pc = .ok (.ior, 1)) (hp : pc + 1 = pc')  (h : own_Fin p.tables e below Rr T (mkF m pc' Ls (.int (x ||| y) :: st))) : own_Fin p.tables e below Rr T (mkF m pc Ls (.int y :: .int x :: st)) := by
  subst hp; exact own_st h (fun t k => XS.ior X.here hx rfl hd rfl k)
theorem own_lor (X : Stand p l e R s m args below meth c T locs kc ks) (hx : p.tables.exec = Jvm.exec) {x y : Int64} (hd : decode c.code pc = .ok (.lor, 1)) (hp : pc + 1 = pc')  (h : own_Fin p.tables e below Rr T (mkF m pc' Ls (.long (x ||| y) :: st))) : own_Fin p.tables e below Rr T (mkF m pc Ls (.long y :: .long x :: st)) := by
  subst hp; exact own_st h (fun t k => XS.lor X.here hx rfl hd rfl k)
theorem own_ixor (X : Stand p l e R s m args below meth c T locs kc ks) (hx : p.tables.exec = Jvm.exec) {x y : Int32} (hd : decode c.code pc = .ok (.ixor, 1)) (hp : pc + 1 = pc')  (h : own_Fin p.tables e below Rr T (mkF m pc' Ls (.int (x ^^^ y) :: st))) : own_Fin p.tables e below Rr T (mkF m pc Ls (.int y :: .int x :: st)) := by
  subst hp; exact own_st h (fun t k => XS.ixor X.here hx rfl hd rfl k)
theorem own_lxor (X : Stand p l e R s m args below meth c T locs kc ks) (hx : p.tables.exec = Jvm.exec) {x y : Int64} (hd : decode c.code pc = .ok (.lxor, 1)) (hp : pc + 1 = pc')  (h : own_Fin p.tables e below Rr T (mkF m pc' Ls (.long (x ^^^ y) :: st))) : own_Fin p.tables e below Rr T (mkF m pc Ls (.long y :: .long x :: st)) := by
  subst hp; exact own_st h (fun t k => XS.lxor X.here hx rfl hd rfl k)
theorem own_idiv (X : Stand p l e R s m args below meth c T locs kc ks) (hx : p.tables.exec = Jvm.exec) {x y : Int32} (hd : decode c.code pc = .ok (.idiv, 1)) (hp : pc + 1 = pc') (hy : y ≠ 0) (h : own_Fin p.tables e below Rr T (mkF m pc' Ls (.int (x / y) :: st))) : own_Fin p.tables e below Rr T (mkF m pc Ls (.int y :: .int x :: st)) := by
  subst hp; exact own_st h (fun t k => XS.idiv X.here hx rfl hd rfl hy k)
theorem own_ldiv (X : Stand p l e R s m args below meth c T locs kc ks) (hx : p.tables.exec = Jvm.exec) {x y : Int64} (hd : decode c.code pc = .ok (.ldiv, 1)) (hp : pc + 1 = pc') (hy : y ≠ 0) (h : own_Fin p.tables e below Rr T (mkF m pc' Ls (.long (x / y) :: st))) : own_Fin p.tables e below Rr T (mkF m pc Ls (.long y :: .long x :: st)) := by
  subst hp; exact own_st h (fun t k => XS.ldiv X.here hx rfl hd rfl hy k)
theorem own_irem (X : Stand p l e R s m args below meth c T locs kc ks) (hx : p.tables.exec = Jvm.exec) {x y : Int32} (hd : decode c.code pc = .ok (.irem, 1)) (hp : pc + 1 = pc') (hy : y ≠ 0) (h : own_Fin p.tables e below Rr T (mkF m pc' Ls (.int (x - (x / y) * y) :: st))) : own_Fin p.tables e below Rr T (mkF m pc Ls (.int y :: .int x :: st)) := by
  subst hp; exact own_st h (fun t k => XS.irem X.here hx rfl hd rfl hy k)
theorem own_lrem (X : Stand p l e R s m args below meth c T locs kc ks) (hx : p.tables.exec = Jvm.exec) {x y : Int64} (hd : decode c.code pc = .ok (.lrem, 1)) (hp : pc + 1 = pc') (hy : y ≠ 0) (h : own_Fin p.tables e below Rr T (mkF m pc' Ls (.long (x - (x / y) * y) :: st))) : own_Fin p.tables e below Rr T (mkF m pc Ls (.long y :: .long x :: st)) := by
  subst hp; exact own_st h (fun t k => XS.lrem X.here hx rfl hd rfl hy k)
theorem own_ishl (X : Stand p l e R s m args below meth c T locs kc ks) (hx : p.tables.exec = Jvm.exec) {x y : Int32} (hd : decode c.code pc = .ok (.ishl, 1)) (hp : pc + 1 = pc')  (h : own_Fin p.tables e below Rr T (mkF m pc' Ls (.int (x <<< (y &&& 31)) :: st))) : own_Fin p.tables e below Rr T (mkF m pc Ls (.int y :: .int x :: st)) := by
  subst hp; exact own_st h (fun t k => XS.ishl X.here hx rfl hd rfl k)
theorem own_ishr (X : Stand p l e R s m args below meth c T locs kc ks) (hx : p.tables.exec = Jvm.exec) {x y : Int32} (hd : decode c.code pc = .ok (.ishr, 1)) (hp : pc + 1 = pc')  (h : own_Fin p.tables e below Rr T (mkF m pc' Ls (.int (x >>> (y &&& 31)) :: st))) : own_Fin p.tables e below Rr T (mkF m pc Ls (.int y :: .int x :: st)) := by
  subst hp; exact own_st h (fun t k => XS.ishr X.here hx rfl hd rfl k)
theorem own_iushr (X : Stand p l e R s m args below meth c T locs kc ks) (hx : p.tables.exec = Jvm.exec) {x y : Int32} (hd : decode c.code pc = .ok (.iushr, 1)) (hp : pc + 1 = pc')  (h : own_Fin p.tables e below Rr T (mkF m pc' Ls (.int (own_ush32 x y) :: st))) : own_Fin p.tables e below Rr T (mkF m pc Ls (.int y :: .int x :: st)) := by
  subst hp; exact own_st h (fun t k => XS.iushr X.here hx rfl hd rfl k)
theorem own_lshl (X : Stand p l e R s m args below meth c T locs kc ks) (hx : p.tables.exec = Jvm.exec) {x : Int64} {y : Int32} (hd : decode c.code pc = .ok (.lshl, 1)) (hp : pc + 1 = pc')  (h : own_Fin p.tables e below Rr T (mkF m pc' Ls (.long (x <<< (y &&& 63).toInt64) :: st))) : own_Fin p.tables e below Rr T (mkF m pc Ls (.int y :: .long x :: st)) := by
  subst hp; exact own_st h (fun t k => XS.lshl X.here hx rfl hd rfl k)
theorem own_lshr (X : Stand p l e R s m args below meth c T locs kc ks) (hx : p.tables.exec = Jvm.exec) {x : Int64} {y : Int32} (hd : decode c.code pc = .ok (.lshr, 1)) (hp : pc + 1 = pc')  (h : own_Fin p.tables e below Rr T (mkF m pc' Ls (.long (x >>> (y &&& 63).toInt64) :: st))) : own_Fin p.tables e below Rr T (mkF m pc Ls (.int y :: .long x :: st)) := by
  subst hp; exact own_st h (fun t k => XS.lshr X.here hx rfl hd rfl k)
theorem own_lushr (X : Stand p l e R s m args below meth c T locs kc ks) (hx : p.tables.exec = Jvm.exec) {x : Int64} {y : Int32} (hd : decode c.code pc = .ok (.lushr, 1)) (hp : pc + 1 = pc')  (h : own_Fin p.tables e below Rr T (mkF m pc' Ls (.long (own_ush64 x y) :: st))) : own_Fin p.tables e below Rr T (mkF m pc Ls (.int y :: .long x :: st)) := by
  subst hp; exact own_st h (fun t k => XS.lushr X.here hx rfl hd rfl k)
theorem own_ineg (X : Stand p l e R s m args below meth c T locs kc ks) (hx : p.tables.exec = Jvm.exec) {x : Int32} (hd : decode c.code pc = .ok (.ineg, 1)) (hp : pc + 1 = pc')  (h : own_Fin p.tables e below Rr T (mkF m pc' Ls (.int (-x) :: st))) : own_Fin p.tables e below Rr T (mkF m pc Ls (.int x :: st)) := by
  subst hp; exact own_st h (fun t k => XS.ineg X.here hx rfl hd rfl k)
theorem own_lneg (X : Stand p l e R s m args below meth c T locs kc ks) (hx : p.tables.exec = Jvm.exec) {x : Int64} (hd : decode c.code pc = .ok (.lneg, 1)) (hp : pc + 1 = pc')  (h : own_Fin p.tables e below Rr T (mkF m pc' Ls (.long (-x) :: st))) : own_Fin p.tables e below Rr T (mkF m pc Ls (.long x :: st)) := by
  subst hp; exact own_st h (fun t k => XS.lneg X.here hx rfl hd rfl k)
theorem own_i2l (X : Stand p l e R s m args below meth c T locs kc ks) (hx : p.tables.exec = Jvm.exec) {x : Int32} (hd : decode c.code pc = .ok (.i2l, 1)) (hp : pc + 1 = pc')  (h : own_Fin p.tables e below Rr T (mkF m pc' Ls (.long (x.toInt64) :: st))) : own_Fin p.tables e below Rr T (mkF m pc Ls (.int x :: st)) := by
  subst hp; exact own_st h (fun t k => XS.i2l X.here hx rfl hd rfl k)
theorem own_l2i (X : Stand p l e R s m args below meth c T locs kc ks) (hx : p.tables.exec = Jvm.exec) {x : Int64} (hd : decode c.code pc = .ok (.l2i, 1)) (hp : pc + 1 = pc')  (h : own_Fin p.tables e below Rr T (mkF m pc' Ls (.int (x.toInt32) :: st))) : own_Fin p.tables e below Rr T (mkF m pc Ls (.long x :: st)) := by
  subst hp; exact own_st h (fun t k => XS.l2i X.here hx rfl hd rfl k)
theorem own_i2b (X : Stand p l e R s m args below meth c T locs kc ks) (hx : p.tables.exec = Jvm.exec) {x : Int32} (hd : decode c.code pc = .ok (.i2b, 1)) (hp : pc + 1 = pc')  (h : own_Fin p.tables e below Rr T (mkF m pc' Ls (.int (x.toInt8.toInt32) :: st))) : own_Fin p.tables e below Rr T (mkF m pc Ls (.int x :: st)) := by
  subst hp; exact own_st h (fun t k => XS.i2b X.here hx rfl hd rfl k)
theorem own_i2s (X : Stand p l e R s m args below meth c T locs kc ks) (hx : p.tables.exec = Jvm.exec) {x : Int32} (hd : decode c.code pc = .ok (.i2s, 1)) (hp : pc + 1 = pc')  (h : own_Fin p.tables e below Rr T (mkF m pc' Ls (.int (x.toInt16.toInt32) :: st))) : own_Fin p.tables e below Rr T (mkF m pc Ls (.int x :: st)) := by
  subst hp; exact own_st h (fun t k => XS.i2s X.here hx rfl hd rfl k)
theorem own_lcmp (X : Stand p l e R s m args below meth c T locs kc ks) (hx : p.tables.exec = Jvm.exec) {x y : Int64} (hd : decode c.code pc = .ok (.lcmp, 1)) (hp : pc + 1 = pc')  (h : own_Fin p.tables e below Rr T (mkF m pc' Ls (.int (lcmpW x y) :: st))) : own_Fin p.tables e below Rr T (mkF m pc Ls (.long y :: .long x :: st)) := by
  subst hp; exact own_st h (fun t k => XS.lcmp X.here hx rfl hd rfl k)
theorem own_iinc (X : Stand p l e R s m args below meth c T locs kc ks) (hx : p.tables.exec = Jvm.exec) {j : Nat} {i : Int} {x : Int32} (hd : decode c.code pc = .ok (.iinc j i, 3)) (hp : pc + 3 = pc') (hl : Ls[j]? = some (.val (.int x))) (hl' : storeLocals Ls j (.int (x + Int32.ofInt i)) = some Ls') (h : own_Fin p.tables e below Rr T (mkF m pc' Ls' st)) : own_Fin p.tables e below Rr T (mkF m pc Ls st) := by
  subst hp; exact own_st h (fun t k => XS.iinc X.here hx rfl hd hl hl' k)
theorem own_dup (X : Stand p l e R s m args below meth c T locs kc ks) (hx : p.tables.exec = Jvm.exec) {v : Value} (hd : decode c.code pc = .ok (.dup, 1)) (hp : pc + 1 = pc') (hc : v.category = 1) (h : own_Fin p.tables e below Rr T (mkF m pc' Ls (v :: v :: st))) : own_Fin p.tables e below Rr T (mkF m pc Ls (v :: st)) := by
  subst hp; exact own_st h (fun t k => XS.dup X.here hx rfl hd rfl hc k)
theorem own_pop (X : Stand p l e R s m args below meth c T locs kc ks) (hx : p.tables.exec = Jvm.exec) {v : Value} (hd : decode c.code pc = .ok (.pop, 1)) (hp : pc + 1 = pc') (hc : v.category = 1) (h : own_Fin p.tables e below Rr T (mkF m pc' Ls st)) : own_Fin p.tables e below Rr T (mkF m pc Ls (v :: st)) := by
  subst hp; exact own_st h (fun t k => XS.pop X.here hx rfl hd rfl hc k)
theorem own_goto (X : Stand p l e R s m args below meth c T locs kc ks) (hx : p.tables.exec = Jvm.exec) {o : Int} (hd : decode c.code pc = .ok (.goto o, 3))  (ho : 0 ≤ (pc : Int) + o) (hp : ((pc : Int) + o).toNat = pc') (h : own_Fin p.tables e below Rr T (mkF m pc' Ls st)) : own_Fin p.tables e below Rr T (mkF m pc Ls st) := own_st h (fun t k => XS.goto X.here hx rfl (pc0 := pc) (pc' := pc') rfl hd ho hp k)
theorem own_ifYes (X : Stand p l e R s m args below meth c T locs kc ks) (hx : p.tables.exec = Jvm.exec) {cd : ClassFile.Cond} {o : Int} {x : Int32} (hd : decode c.code pc = .ok (.ifCond cd o, 3)) (hc : ifCond.holds cd x = true) (ho : 0 ≤ (pc : Int) + o) (hp : ((pc : Int) + o).toNat = pc') (h : own_Fin p.tables e below Rr T (mkF m pc' Ls st)) : own_Fin p.tables e below Rr T (mkF m pc Ls (.int x :: st)) := own_st h (fun t k => XS.ifYes X.here hx rfl (pc0 := pc) (pc' := pc') rfl hd rfl hc ho hp k)
theorem own_icmpYes (X : Stand p l e R s m args below meth c T locs kc ks) (hx : p.tables.exec = Jvm.exec) {cd : ClassFile.Cond} {o : Int} {x y : Int32} (hd : decode c.code pc = .ok (.if_icmp cd o, 3)) (hc : if_icmp.holds cd x y = true) (ho : 0 ≤ (pc : Int) + o) (hp : ((pc : Int) + o).toNat = pc') (h : own_Fin p.tables e below Rr T (mkF m pc' Ls st)) : own_Fin p.tables e below Rr T (mkF m pc Ls (.int y :: .int x :: st)) := own_st h (fun t k => XS.icmpYes X.here hx rfl (pc0 := pc) (pc' := pc') rfl hd rfl hc ho hp k)
theorem own_ifNo (X : Stand p l e R s m args below meth c T locs kc ks) (hx : p.tables.exec = Jvm.exec) {cd : ClassFile.Cond} {o : Int} {x : Int32} (hd : decode c.code pc = .ok (.ifCond cd o, 3)) (hp : pc + 3 = pc') (hc : ifCond.holds cd x = false) (h : own_Fin p.tables e below Rr T (mkF m pc' Ls st)) : own_Fin p.tables e below Rr T (mkF m pc Ls (.int x :: st)) := by
  subst hp; exact own_st h (fun t k => XS.ifNo X.here hx rfl hd rfl hc k)
theorem own_icmpNo (X : Stand p l e R s m args below meth c T locs kc ks) (hx : p.tables.exec = Jvm.exec) {cd : ClassFile.Cond} {o : Int} {x y : Int32} (hd : decode c.code pc = .ok (.if_icmp cd o, 3)) (hp : pc + 3 = pc') (hc : if_icmp.holds cd x y = false) (h : own_Fin p.tables e below Rr T (mkF m pc' Ls st)) : own_Fin p.tables e below Rr T (mkF m pc Ls (.int y :: .int x :: st)) := by
  subst hp; exact own_st h (fun t k => XS.icmpNo X.here hx rfl hd rfl hc k)
theorem own_ldcInt (X : Stand p l e R s m args below meth c T locs kc ks) (hx : p.tables.exec = Jvm.exec) {own : String} {index : Nat} {v : Int32} (hZ : Z.Warmed39 s.vm) (hown : s.vm.findClass own = some m.cls) (w : (Jvm.Cond.constant own index v).before a0 Z = true) (hd : decode c.code pc = .ok (.ldc index, 2)) (hp : pc + 2 = pc') (h : own_Fin p.tables e below Rr T (mkF m pc' Ls (.int v :: st))) : own_Fin p.tables e below Rr T (mkF m pc Ls st) := by
  subst hp; exact own_st h (fun t k => X.ldcInt hx hown (mvT hZ w) (g := mkF m pc Ls st) rfl hd t k)
theorem own_ldc2Long (X : Stand p l e R s m args below meth c T locs kc ks) (hx : p.tables.exec = Jvm.exec) {own : String} {index : Nat} {v : Int64} (hZ : Z.Warmed39 s.vm) (hown : s.vm.findClass own = some m.cls) (w : (Jvm.Cond.constantLong own index v).before a0 Z = true) (hd : decode c.code pc = .ok (.ldc2_w index, 3)) (hp : pc + 3 = pc') (h : own_Fin p.tables e below Rr T (mkF m pc' Ls (.long v :: st))) : own_Fin p.tables e below Rr T (mkF m pc Ls st) := by
  subst hp; exact own_st h (fun t k => X.ldc2Long hx hown (mvT hZ w) (g := mkF m pc Ls st) rfl hd t k)
theorem own_getF (X : Stand p l e R s m args below meth c T locs kc ks) (hx : p.tables.exec = Jvm.exec) {own R0 O n d : String} {index : Nat} {a : Addr} {v : Value} (hZ : Z.Warmed39 s.vm) (hown : s.vm.findClass own = some m.cls) (w : (Jvm.Cond.fieldLink own index R0 n d).before a0 Z = true) (via : Via Z R0 O n d) (eT : T.heap = h) (Fl : Fld Z h a O n d v) (hd : decode c.code pc = .ok (.getfield index, 3)) (hp : pc + 3 = pc')
    (k : ∀ T', Stand p l e R s m args below meth c T' locs kc ks → T'.heap = h → own_Fin p.tables e below Rr T' (mkF m pc' Ls (v :: st))) : own_Fin p.tables e below Rr T (mkF m pc Ls (.ref a :: st)) := by
  obtain ⟨T', X', e', st'⟩ := getF X hx hZ hown (host := "") (Or.inl w) via eT Fl (g := mkF m pc Ls (.ref a :: st)) rfl rfl hd
  subst hp; exact own_st (k T' X' e') st'
end OwnStep
section OwnPop
variable {p : Program} {l : Launch} {e : Env} {R : Room} {s : State} {m : MethodId} {args : Array Value} {below : List Frame} {meth : Method} {c : Code} {T : State} {locs : List Loc} {k n : Nat}
theorem own_pop2 (X : Stand p l e R s m args below meth c T locs k n) (hx : p.tables.exec = Jvm.exec) {pc : Nat} {Ls : Array Slot} {z : Int64} {rest : List Value} {t : State} (hd : decode c.code pc = .ok (.pop2, 1)) (hr : Steps p.tables e below (T.setTop (mkF m (pc + 1) Ls rest)) t) : Steps p.tables e below (T.setTop (mkF m pc Ls (.long z :: rest))) t := by
  jvm_step X.here [X.here.top, hx, hd, Value.category]
  exact hr
end OwnPop
section OwnRet
variable {p : Program} {l : Launch} {e : Env} {R : Room} {s : State} {m : MethodId} {args : Array Value} {below : List Frame} {meth : Method} {c : Code} {T : State} {locs : List Loc} {k n k' n' : Nat} {Q : Option Value → Heap → List Loc → Prop} {pc : Nat} {Ls : Array Slot}
theorem own_retN (X : Stand p l e R s m args below meth c T locs k n) (hx : p.tables.exec = Jvm.exec) {t : FieldType} (hret : meth.sig.returnType = some t) (ht : t = .boolean ∨ t = .byte ∨ t = .char ∨ t = .short) (hlk : meth.locks = false) {z : Int32} {rest : List Value} (hd : decode c.code pc = .ok (.ireturn, 1)) (hk : k ≤ k') (hn : n ≤ n') (hq : Q (some (.int (nar t z))) T.heap locs) : own_Fin p.tables e below (own_End below s Q k' n') T (mkF m pc Ls (.int z :: rest)) := by
  obtain ⟨fs, hr, hrun, hended, hW, hsame⟩ := X.leave (v := some (.int (nar t z))) (fun h => by rw [hret] at h; cases h) hlk
  exact ⟨_, retN X hx hret ht hd hr, hrun, _, hended, _, _, rfl, hq, ⟨_, rfl⟩, hW, hsame.mono hk hn⟩
theorem own_retNW {vm₁ : Vm} {k0 : Nat} (X : Stand p l e R (s.setVm vm₁) m args below meth c T locs k n) (hx : p.tables.exec = Jvm.exec) (hS : s.Since vm₁ k0) (hk0 : k0 ≤ T.heap.size) {t : FieldType} (hret : meth.sig.returnType = some t) (ht : t = .boolean ∨ t = .byte ∨ t = .char ∨ t = .short) (hlk : meth.locks = false) {z : Int32} {rest : List Value} (hd : decode c.code pc = .ok (.ireturn, 1)) (hk : k ≤ k') (hn : n ≤ n') (hq : Q (some (.int (nar t z))) T.heap locs) : own_Fin p.tables e below (own_EndW below s Q k' n') T (mkF m pc Ls (.int z :: rest)) := by
  obtain ⟨fs, hr, hrun, hended, hW⟩ := X.leaveW hS hk0 (v := some (.int (nar t z))) (fun h => by rw [hret] at h; cases h) hlk
  exact ⟨_, retN X hx hret ht hd hr, hrun, _, hended, _, _, rfl, hq, hW.1, hW.2.1, hW.2.2.1, hW.2.2.2.mono hk hn⟩
theorem own_retI (X : Stand p l e R s m args below meth c T locs k n) (hx : p.tables.exec = Jvm.exec) (hret : meth.sig.returnType = some .int) (hlk : meth.locks = false) {z : Int32} {rest : List Value} (hd : decode c.code pc = .ok (.ireturn, 1)) (hk : k ≤ k') (hn : n ≤ n') (hq : Q (some (.int z)) T.heap locs) : own_Fin p.tables e below (own_End below s Q k' n') T (mkF m pc Ls (.int z :: rest)) := by
  obtain ⟨fs, hr, hrun, hended, hW, hsame⟩ := X.leave (v := some (.int z)) (fun h => by rw [hret] at h; cases h) hlk
  exact ⟨_, retI X hx hret hd hr, hrun, _, hended, _, _, rfl, hq, ⟨_, rfl⟩, hW, hsame.mono hk hn⟩
theorem own_retJ (X : Stand p l e R s m args below meth c T locs k n) (hx : p.tables.exec = Jvm.exec) (hret : meth.sig.returnType = some .long) (hlk : meth.locks = false) {z : Int64} (hd : decode c.code pc = .ok (.lreturn, 1)) (hk : k ≤ k') (hn : n ≤ n') (hq : Q (some (.long z)) T.heap locs) : own_Fin p.tables e below (own_End below s Q k' n') T (mkF m pc Ls [.long z]) := by
  obtain ⟨fs, hr, hrun, hended, hW, hsame⟩ := X.leave (v := some (.long z)) (fun h => by rw [hret] at h; cases h) hlk
  exact ⟨_, lreturnOut X hx hret hd hr, hrun, _, hended, _, _, rfl, hq, ⟨_, rfl⟩, hW, hsame.mono hk hn⟩
theorem own_retV (X : Stand p l e R s m args below meth c T locs k n) (hx : p.tables.exec = Jvm.exec) (hret : meth.sig.returnType = none) (hlk : meth.locks = false) (hd : decode c.code pc = .ok (.return_, 1)) (hk : k ≤ k') (hn : n ≤ n') (hq : Q none T.heap locs) : own_Fin p.tables e below (own_End below s Q k' n') T (mkF m pc Ls []) := by
  obtain ⟨fs, hr, hrun, hended, hW, hsame⟩ := X.leave (v := none) (fun _ => rfl) hlk
  exact ⟨_, X.returnOut hx hret hd hr, hrun, _, hended, _, _, rfl, hq, ⟨_, rfl⟩, hW, hsame.mono hk hn⟩
end OwnRet
end Jvm.Pilot.@@N@@
namespace Jvm.Pilot.@@N@@
open Jvm Jvm.ClassFile Sem Op Lib Jvm.Free Jvm.Stand Jvm.LawKit Jvm.RoadKit Bundle Jvm.Pilot.@@N@@.Jvm.D
theorem pd_0 : parseMethodDescriptor "(III)Z" = some ⟨[.int, .int, .int], some .boolean⟩ := by decide +kernel
theorem pd_1 : parseMethodDescriptor "(II)I" = some ⟨[.int, .int], some .int⟩ := by decide +kernel
theorem d1_0 : decode prog_27_method_4_code 0 = .ok (.iload_n 0, 1) := by decide +kernel
theorem d1_1 : decode prog_27_method_4_code 1 = .ok (.ifCond .lt 12, 3) := by decide +kernel
theorem d1_4 : decode prog_27_method_4_code 4 = .ok (.iload_n 0, 1) := by decide +kernel
theorem d1_5 : decode prog_27_method_4_code 5 = .ok (.ifCond .ne 12, 3) := by decide +kernel
theorem d1_8 : decode prog_27_method_4_code 8 = .ok (.iload_n 1, 1) := by decide +kernel
theorem d1_9 : decode prog_27_method_4_code 9 = .ok (.iload_n 2, 1) := by decide +kernel
theorem d1_10 : decode prog_27_method_4_code 10 = .ok (.if_icmp .ge 7, 3) := by decide +kernel
theorem d1_13 : decode prog_27_method_4_code 13 = .ok (.iconst 1, 1) := by decide +kernel
theorem d1_14 : decode prog_27_method_4_code 14 = .ok (.goto 4, 3) := by decide +kernel
theorem d1_17 : decode prog_27_method_4_code 17 = .ok (.iconst 0, 1) := by decide +kernel
theorem d1_18 : decode prog_27_method_4_code 18 = .ok (.ireturn, 1) := by decide +kernel
theorem pn_1 : plainName "com/example/laima/laima/policies/Best" = true := by first | (simp [plainName, overriddenIn]; done) | decide +kernel
def own_f1 (q1 : Int32) (q2 : Int32) (q3 : Int32) : Int32 :=
  if q1 < (0 : Int32) then (1 : Int32) else
  if q1 = (0 : Int32) then (if q2 < q3 then (1 : Int32) else
    (0 : Int32)) else
  (0 : Int32)
set_option maxRecDepth 65536 in
set_option maxHeartbeats 40000000 in
theorem sg1_0 {p : Program} (l : Launch) {e : Env} {s : State} {m : MethodId} {args : Array Value} {below : List Frame} {meth : Method} {c : Code} {Z : State} {a0 : Array Value} (hw : ∀ d ∈ tables_1, d.before a0 Z = true) (hx : p.tables.exec = Jvm.exec) (hZ : Z.Warmed39 s.vm) (hby : c.code = prog_27_method_4_code) (hml : c.maxLocals = 3) (hown : s.vm.findClass "com/example/laima/laima/policies/Best" = some m.cls) (hnm : meth.name = "ranksBefore") (hret : meth.sig.returnType = (some .boolean)) (hlk : meth.locks = false) (q1 : Int32) (q2 : Int32) (q3 : Int32) {h0 : Heap} {n0 : Nat} (Z0 : n0 ≤ h0.size) {T0 : State} {L0 : List Loc} (X0 : Stand p l e ({ frames := 0, cells := 0, slots := 0, locals := 0 } : Room) s m args below meth c T0 L0 0 0) (N0 : Fr n0 L0) (e0 : T0.heap = h0)  :
    own_Fin p.tables e below (own_End below s (own_P h0 n0 (some (.int (own_f1 q1 q2 q3)))) 0 0) T0 (mkF m 0 #[.val (.int q1), .val (.int q2), .val (.int q3)] []) := by
  refine own_iloadN X0 hx (hb hby d1_0) (pc' := 1) rfl rfl ?_
  by_cases hc1 : q1 < (0 : Int32)
  · refine own_ifYes X0 hx (hb hby d1_1) ((if0 _ _).trans (tlt hc1).1) (pc' := 13) (by decide) (by decide) ?_
    refine own_iconst X0 hx (hb hby d1_13) (pc' := 14) rfl (v := (1 : Int32)) rfl ?_
    refine own_goto X0 hx (hb hby d1_14) (pc' := 18) (by decide) (by decide) ?_
    refine own_retN X0 hx (t := .boolean) hret (by simp) hlk (hb hby d1_18) (by decide) (by decide) ?_
    show own_P _ _ _ _ T0.heap _
    exact ⟨(congrArg some (congrArg Value.int (show _ = (own_f1 q1 q2 q3) from by rw [own_f1, if_pos hc1]; rfl))), N0, e0⟩
  · refine own_ifNo X0 hx (hb hby d1_1) (pc' := 4) rfl ((if0 _ _).trans (flt hc1).1) ?_
    refine own_iloadN X0 hx (hb hby d1_4) (pc' := 5) rfl rfl ?_
    by_cases hc2 : q1 = (0 : Int32)
    · refine own_ifNo X0 hx (hb hby d1_5) (pc' := 8) rfl ((if0 _ _).trans (teq hc2).2) ?_
      refine own_iloadN X0 hx (hb hby d1_8) (pc' := 9) rfl rfl ?_
      refine own_iloadN X0 hx (hb hby d1_9) (pc' := 10) rfl rfl ?_
      by_cases hc3 : q2 < q3
      · refine own_icmpNo X0 hx (hb hby d1_10) (pc' := 13) rfl (tlt hc3).2.1 ?_
        refine own_iconst X0 hx (hb hby d1_13) (pc' := 14) rfl (v := (1 : Int32)) rfl ?_
        refine own_goto X0 hx (hb hby d1_14) (pc' := 18) (by decide) (by decide) ?_
        refine own_retN X0 hx (t := .boolean) hret (by simp) hlk (hb hby d1_18) (by decide) (by decide) ?_
        show own_P _ _ _ _ T0.heap _
        exact ⟨(congrArg some (congrArg Value.int (show _ = (own_f1 q1 q2 q3) from by rw [own_f1, if_neg hc1, if_pos hc2, if_pos hc3]; rfl))), N0, e0⟩
      · refine own_icmpYes X0 hx (hb hby d1_10) (flt hc3).2.1 (pc' := 17) (by decide) (by decide) ?_
        refine own_iconst X0 hx (hb hby d1_17) (pc' := 18) rfl (v := (0 : Int32)) rfl ?_
        refine own_retN X0 hx (t := .boolean) hret (by simp) hlk (hb hby d1_18) (by decide) (by decide) ?_
        show own_P _ _ _ _ T0.heap _
        exact ⟨(congrArg some (congrArg Value.int (show _ = (own_f1 q1 q2 q3) from by rw [own_f1, if_neg hc1, if_pos hc2, if_neg hc3]; rfl))), N0, e0⟩
    · refine own_ifYes X0 hx (hb hby d1_5) ((if0 _ _).trans (feq hc2).2) (pc' := 17) (by decide) (by decide) ?_
      refine own_iconst X0 hx (hb hby d1_17) (pc' := 18) rfl (v := (0 : Int32)) rfl ?_
      refine own_retN X0 hx (t := .boolean) hret (by simp) hlk (hb hby d1_18) (by decide) (by decide) ?_
      show own_P _ _ _ _ T0.heap _
      exact ⟨(congrArg some (congrArg Value.int (show _ = (own_f1 q1 q2 q3) from by rw [own_f1, if_neg hc1, if_neg hc2]; rfl))), N0, e0⟩
theorem ef_1 (m : MethodId) (q1 : Int32) (q2 : Int32) (q3 : Int32) : entryFrame m #[(.int q1), (.int q2), (.int q3)] 3 = mkF m 0 #[.val (.int q1), .val (.int q2), .val (.int q3)] [] := by first | (simp [entryFrame, mkF, argsToLocals, Value.category]; done) | rfl
set_option maxRecDepth 65536 in
set_option maxHeartbeats 40000000 in
theorem rm1 (l : Launch) (Z : State) (a0 : Array Value) (hw : ∀ d ∈ tables_1, d.before a0 Z = true) (ws : List Jvm.Cond) (q1 : Int32) (q2 : Int32) (q3 : Int32) (h0 : Heap) (n0 : Nat) (Z0 : n0 ≤ h0.size)  :
    MetFree l (⟨"com/example/laima/laima/policies/Best", "ranksBefore", "(III)Z"⟩ : MethodName) (head1 (Jvm.Cond.code (⟨"com/example/laima/laima/policies/Best", "ranksBefore", "(III)Z"⟩ : MethodName) prog_27_method_4_code 3 (some .boolean) :: ws) ({ frames := 0, cells := 0, slots := 0, locals := 0 } : Room)) (fun a U => a = #[(.int q1), (.int q2), (.int q3)] ∧ Z.Warmed39 U.vm ∧ U.heap = h0) (fun _ _ _ _ _ => True) (fun _ U o U' => ∃ v L, o = .returned v ∧ (own_P h0 n0 (some (.int (own_f1 q1 q2 q3)))) v U'.heap L ∧ FrameEnd U o U' L ({ frames := 0, cells := 0, slots := 0, locals := 0 } : Room).cells ({ frames := 0, cells := 0, slots := 0, locals := 0 } : Room).slots) := by
  refine MetFree.of_bodySF (plainFor_of_name pn_1) hisR ?_
  intro p e s m args below meth c s₁ Bd hml0 hP hK
  obtain ⟨rfl, hZ, hh⟩ := hP
  have hown : s.vm.findClass "com/example/laima/laima/policies/Best" = some m.cls := findClass_of_methodNamed Bd.named
  have hnm := (name_of_methodNamed Bd.named Bd.method).1
  have X0 : Stand p l e ({ frames := 0, cells := 0, slots := 0, locals := 0 } : Room) s m #[(.int q1), (.int q2), (.int q3)] below meth c s₁ [] 0 0 := Stand.of_body Bd
  have e0 : s₁.heap = h0 := by rw [← hh, Bd.state]; rfl
  have H := sg1_0 l hw Bd.exec hZ Bd.bytes hml0 hown hnm Bd.returns Bd.notSynchronized q1 q2 q3 Z0 X0 (Fr.nil n0) e0
  obtain ⟨t, h1, h2, o, h3, h4⟩ := H
  exact ⟨t, o, castTop (ef_1 m q1 q2 q3) h1, h2, h3, h4⟩
theorem d2_0 : decode jdk_29_method_69_code 0 = .ok (.iload_n 0, 1) := by decide +kernel
theorem d2_1 : decode jdk_29_method_69_code 1 = .ok (.iload_n 1, 1) := by decide +kernel
theorem d2_2 : decode jdk_29_method_69_code 2 = .ok (.if_icmp .gt 7, 3) := by decide +kernel
theorem d2_5 : decode jdk_29_method_69_code 5 = .ok (.iload_n 0, 1) := by decide +kernel
theorem d2_6 : decode jdk_29_method_69_code 6 = .ok (.goto 4, 3) := by decide +kernel
theorem d2_9 : decode jdk_29_method_69_code 9 = .ok (.iload_n 1, 1) := by decide +kernel
theorem d2_10 : decode jdk_29_method_69_code 10 = .ok (.ireturn, 1) := by decide +kernel
def own_f2 (q1 : Int32) (q2 : Int32) : Int32 :=
  if q2 < q1 then q2 else
  q1
set_option maxRecDepth 65536 in
set_option maxHeartbeats 40000000 in
theorem sg2_0 {p : Program} (l : Launch) {e : Env} {s : State} {m : MethodId} {args : Array Value} {below : List Frame} {meth : Method} {c : Code} {Z : State} {a0 : Array Value} (hw : ∀ d ∈ tables_1, d.before a0 Z = true) (hx : p.tables.exec = Jvm.exec) (hZ : Z.Warmed39 s.vm) (hby : c.code = jdk_29_method_69_code) (hml : c.maxLocals = 2) (hown : s.vm.findClass "java/lang/Math" = some m.cls) (hnm : meth.name = "min") (hret : meth.sig.returnType = (some .int)) (hlk : meth.locks = false) (q1 : Int32) (q2 : Int32) {h0 : Heap} {n0 : Nat} (Z0 : n0 ≤ h0.size) {T0 : State} {L0 : List Loc} (X0 : Stand p l e ({ frames := 0, cells := 0, slots := 0, locals := 0 } : Room) s m args below meth c T0 L0 0 0) (N0 : Fr n0 L0) (e0 : T0.heap = h0)  :
    own_Fin p.tables e below (own_End below s (own_P h0 n0 (some (.int (own_f2 q1 q2)))) 0 0) T0 (mkF m 0 #[.val (.int q1), .val (.int q2)] []) := by
  refine own_iloadN X0 hx (hb hby d2_0) (pc' := 1) rfl rfl ?_
  refine own_iloadN X0 hx (hb hby d2_1) (pc' := 2) rfl rfl ?_
  by_cases hc4 : q2 < q1
  · refine own_icmpYes X0 hx (hb hby d2_2) (tlt hc4).2.2.1 (pc' := 9) (by decide) (by decide) ?_
    refine own_iloadN X0 hx (hb hby d2_9) (pc' := 10) rfl rfl ?_
    refine own_retI X0 hx hret hlk (hb hby d2_10) (by decide) (by decide) ?_
    show own_P _ _ _ _ T0.heap _
    exact ⟨(congrArg some (congrArg Value.int (show q2 = (own_f2 q1 q2) from by rw [own_f2, if_pos hc4]))), N0, e0⟩
  · refine own_icmpNo X0 hx (hb hby d2_2) (pc' := 5) rfl (flt hc4).2.2.1 ?_
    refine own_iloadN X0 hx (hb hby d2_5) (pc' := 6) rfl rfl ?_
    refine own_goto X0 hx (hb hby d2_6) (pc' := 10) (by decide) (by decide) ?_
    refine own_retI X0 hx hret hlk (hb hby d2_10) (by decide) (by decide) ?_
    show own_P _ _ _ _ T0.heap _
    exact ⟨(congrArg some (congrArg Value.int (show q1 = (own_f2 q1 q2) from by rw [own_f2, if_neg hc4]))), N0, e0⟩
theorem ef_2 (m : MethodId) (q1 : Int32) (q2 : Int32) : entryFrame m #[(.int q1), (.int q2)] 2 = mkF m 0 #[.val (.int q1), .val (.int q2)] [] := by first | (simp [entryFrame, mkF, argsToLocals, Value.category]; done) | rfl
set_option maxRecDepth 65536 in
set_option maxHeartbeats 40000000 in
theorem rm2 (l : Launch) (Z : State) (a0 : Array Value) (hw : ∀ d ∈ tables_1, d.before a0 Z = true) (ws : List Jvm.Cond) (q1 : Int32) (q2 : Int32) (h0 : Heap) (n0 : Nat) (Z0 : n0 ≤ h0.size)  :
    MetFree l (⟨"java/lang/Math", "min", "(II)I"⟩ : MethodName) (head1 (Jvm.Cond.code (⟨"java/lang/Math", "min", "(II)I"⟩ : MethodName) jdk_29_method_69_code 2 (some .int) :: ws) ({ frames := 0, cells := 0, slots := 0, locals := 0 } : Room)) (fun a U => a = #[(.int q1), (.int q2)] ∧ Z.Warmed39 U.vm ∧ U.heap = h0) (fun _ _ _ _ _ => True) (fun _ U o U' => ∃ v L, o = .returned v ∧ (own_P h0 n0 (some (.int (own_f2 q1 q2)))) v U'.heap L ∧ FrameEnd U o U' L ({ frames := 0, cells := 0, slots := 0, locals := 0 } : Room).cells ({ frames := 0, cells := 0, slots := 0, locals := 0 } : Room).slots) := by
  refine MetFree.of_bodySF (Jvm.Free.JP.mathPlain rfl (by decide +kernel)) hisR ?_
  intro p e s m args below meth c s₁ Bd hml0 hP hK
  obtain ⟨rfl, hZ, hh⟩ := hP
  have hown : s.vm.findClass "java/lang/Math" = some m.cls := findClass_of_methodNamed Bd.named
  have hnm := (name_of_methodNamed Bd.named Bd.method).1
  have X0 : Stand p l e ({ frames := 0, cells := 0, slots := 0, locals := 0 } : Room) s m #[(.int q1), (.int q2)] below meth c s₁ [] 0 0 := Stand.of_body Bd
  have e0 : s₁.heap = h0 := by rw [← hh, Bd.state]; rfl
  have H := sg2_0 l hw Bd.exec hZ Bd.bytes hml0 hown hnm Bd.returns Bd.notSynchronized q1 q2 Z0 X0 (Fr.nil n0) e0
  obtain ⟨t, h1, h2, o, h3, h4⟩ := H
  exact ⟨t, o, castTop (ef_2 m q1 q2) h1, h2, h3, h4⟩
theorem d3_0 : decode jdk_29_method_65_code 0 = .ok (.iload_n 0, 1) := by decide +kernel
theorem d3_1 : decode jdk_29_method_65_code 1 = .ok (.iload_n 1, 1) := by decide +kernel
theorem d3_2 : decode jdk_29_method_65_code 2 = .ok (.if_icmp .lt 7, 3) := by decide +kernel
theorem d3_5 : decode jdk_29_method_65_code 5 = .ok (.iload_n 0, 1) := by decide +kernel
theorem d3_6 : decode jdk_29_method_65_code 6 = .ok (.goto 4, 3) := by decide +kernel
theorem d3_9 : decode jdk_29_method_65_code 9 = .ok (.iload_n 1, 1) := by decide +kernel
theorem d3_10 : decode jdk_29_method_65_code 10 = .ok (.ireturn, 1) := by decide +kernel
def own_f3 (q1 : Int32) (q2 : Int32) : Int32 :=
  if q1 < q2 then q2 else
  q1
set_option maxRecDepth 65536 in
set_option maxHeartbeats 40000000 in
theorem sg3_0 {p : Program} (l : Launch) {e : Env} {s : State} {m : MethodId} {args : Array Value} {below : List Frame} {meth : Method} {c : Code} {Z : State} {a0 : Array Value} (hw : ∀ d ∈ tables_1, d.before a0 Z = true) (hx : p.tables.exec = Jvm.exec) (hZ : Z.Warmed39 s.vm) (hby : c.code = jdk_29_method_65_code) (hml : c.maxLocals = 2) (hown : s.vm.findClass "java/lang/Math" = some m.cls) (hnm : meth.name = "max") (hret : meth.sig.returnType = (some .int)) (hlk : meth.locks = false) (q1 : Int32) (q2 : Int32) {h0 : Heap} {n0 : Nat} (Z0 : n0 ≤ h0.size) {T0 : State} {L0 : List Loc} (X0 : Stand p l e ({ frames := 0, cells := 0, slots := 0, locals := 0 } : Room) s m args below meth c T0 L0 0 0) (N0 : Fr n0 L0) (e0 : T0.heap = h0)  :
    own_Fin p.tables e below (own_End below s (own_P h0 n0 (some (.int (own_f3 q1 q2)))) 0 0) T0 (mkF m 0 #[.val (.int q1), .val (.int q2)] []) := by
  refine own_iloadN X0 hx (hb hby d3_0) (pc' := 1) rfl rfl ?_
  refine own_iloadN X0 hx (hb hby d3_1) (pc' := 2) rfl rfl ?_
  by_cases hc5 : q1 < q2
  · refine own_icmpYes X0 hx (hb hby d3_2) (tlt hc5).1 (pc' := 9) (by decide) (by decide) ?_
    refine own_iloadN X0 hx (hb hby d3_9) (pc' := 10) rfl rfl ?_
    refine own_retI X0 hx hret hlk (hb hby d3_10) (by decide) (by decide) ?_
    show own_P _ _ _ _ T0.heap _
    exact ⟨(congrArg some (congrArg Value.int (show q2 = (own_f3 q1 q2) from by rw [own_f3, if_pos hc5]))), N0, e0⟩
  · refine own_icmpNo X0 hx (hb hby d3_2) (pc' := 5) rfl (flt hc5).1 ?_
    refine own_iloadN X0 hx (hb hby d3_5) (pc' := 6) rfl rfl ?_
    refine own_goto X0 hx (hb hby d3_6) (pc' := 10) (by decide) (by decide) ?_
    refine own_retI X0 hx hret hlk (hb hby d3_10) (by decide) (by decide) ?_
    show own_P _ _ _ _ T0.heap _
    exact ⟨(congrArg some (congrArg Value.int (show q1 = (own_f3 q1 q2) from by rw [own_f3, if_neg hc5]))), N0, e0⟩
theorem ef_3 (m : MethodId) (q1 : Int32) (q2 : Int32) : entryFrame m #[(.int q1), (.int q2)] 2 = mkF m 0 #[.val (.int q1), .val (.int q2)] [] := by first | (simp [entryFrame, mkF, argsToLocals, Value.category]; done) | rfl
set_option maxRecDepth 65536 in
set_option maxHeartbeats 40000000 in
theorem rm3 (l : Launch) (Z : State) (a0 : Array Value) (hw : ∀ d ∈ tables_1, d.before a0 Z = true) (ws : List Jvm.Cond) (q1 : Int32) (q2 : Int32) (h0 : Heap) (n0 : Nat) (Z0 : n0 ≤ h0.size)  :
    MetFree l (⟨"java/lang/Math", "max", "(II)I"⟩ : MethodName) (head1 (Jvm.Cond.code (⟨"java/lang/Math", "max", "(II)I"⟩ : MethodName) jdk_29_method_65_code 2 (some .int) :: ws) ({ frames := 0, cells := 0, slots := 0, locals := 0 } : Room)) (fun a U => a = #[(.int q1), (.int q2)] ∧ Z.Warmed39 U.vm ∧ U.heap = h0) (fun _ _ _ _ _ => True) (fun _ U o U' => ∃ v L, o = .returned v ∧ (own_P h0 n0 (some (.int (own_f3 q1 q2)))) v U'.heap L ∧ FrameEnd U o U' L ({ frames := 0, cells := 0, slots := 0, locals := 0 } : Room).cells ({ frames := 0, cells := 0, slots := 0, locals := 0 } : Room).slots) := by
  refine MetFree.of_bodySF (Jvm.Free.JP.mathPlain rfl (by decide +kernel)) hisR ?_
  intro p e s m args below meth c s₁ Bd hml0 hP hK
  obtain ⟨rfl, hZ, hh⟩ := hP
  have hown : s.vm.findClass "java/lang/Math" = some m.cls := findClass_of_methodNamed Bd.named
  have hnm := (name_of_methodNamed Bd.named Bd.method).1
  have X0 : Stand p l e ({ frames := 0, cells := 0, slots := 0, locals := 0 } : Room) s m #[(.int q1), (.int q2)] below meth c s₁ [] 0 0 := Stand.of_body Bd
  have e0 : s₁.heap = h0 := by rw [← hh, Bd.state]; rfl
  have H := sg3_0 l hw Bd.exec hZ Bd.bytes hml0 hown hnm Bd.returns Bd.notSynchronized q1 q2 Z0 X0 (Fr.nil n0) e0
  obtain ⟨t, h1, h2, o, h3, h4⟩ := H
  exact ⟨t, o, castTop (ef_3 m q1 q2) h1, h2, h3, h4⟩
theorem pn_0 : plainName "com/example/laima/laima/policies/BestRanksBeforePinLaw" = true := by first | (simp [plainName, overriddenIn]; done) | decide +kernel
def own_f0_64 (v1 : Int32) (v2 : Int32) (v3 : Int32) (v4 : Int32) (v5 : Int32) (v6 : Int32) (v7 : Int32) (v8 : Int32) : Int32 :=
  if (own_f1 v5 v2 v6) = (own_f1 v7 v2 v6) then (if (own_f1 (-1 : Int32) v2 v6) = (0 : Int32) then (0 : Int32) else
    if (own_f1 (1 : Int32) v2 v6) = (0 : Int32) then (if (own_f1 (0 : Int32) v2 v2) = (0 : Int32) then (if v2 = v6 then (if (own_f1 (0 : Int32) v2 v6) = (0 : Int32) then (if (own_f1 (0 : Int32) v6 v2) = (0 : Int32) then (if v5 = (0 : Int32) then (if (own_f1 v5 v2 v6) = (0 : Int32) then (if (own_f1 v8 v6 v2) = (0 : Int32) then (1 : Int32) else
    (0 : Int32)) else
    (0 : Int32)) else
    if (own_f1 v5 v2 v6) = (own_f1 v8 v6 v2) then (0 : Int32) else
    (1 : Int32)) else
    (0 : Int32)) else
    (0 : Int32)) else
    if (own_f1 (0 : Int32) v2 v6) = (own_f1 (0 : Int32) v6 v2) then (0 : Int32) else
    if (own_f1 (0 : Int32) (own_f2 v2 v6) (own_f3 v2 v6)) = (0 : Int32) then (0 : Int32) else
    if (own_f1 v5 v2 v6) = (own_f1 v8 v6 v2) then (0 : Int32) else
    (1 : Int32)) else
    (0 : Int32)) else
    (0 : Int32)) else
  (0 : Int32)
def own_f0_47 (v1 : Int32) (v2 : Int32) (v3 : Int32) (v4 : Int32) (v5 : Int32) (v6 : Int32) (v7 : Int32) : Int32 :=
  if v5 = (-2147483648 : Int32) then (own_f0_64 v1 v2 v3 v4 v5 v6 v7 (2147483647 : Int32)) else
  (own_f0_64 v1 v2 v3 v4 v5 v6 v7 (-v5))
def own_f0_26 (v1 : Int32) (v2 : Int32) (v3 : Int32) (v4 : Int32) (v5 : Int32) (v6 : Int32) : Int32 :=
  if v5 < (0 : Int32) then (own_f0_47 v1 v2 v3 v4 v5 v6 (-1 : Int32)) else
  if (0 : Int32) < v5 then (own_f0_47 v1 v2 v3 v4 v5 v6 (1 : Int32)) else
  (own_f0_47 v1 v2 v3 v4 v5 v6 (0 : Int32))
def own_f0_13 (v1 : Int32) (v2 : Int32) (v3 : Int32) (v4 : Int32) (v5 : Int32) : Int32 :=
  if (v4 &&& (1 : Int32)) = (0 : Int32) then (own_f0_26 v1 v2 v3 v4 v5 v3) else
  (own_f0_26 v1 v2 v3 v4 v5 v2)
def own_f0 (q1 : Int32) (q2 : Int32) (q3 : Int32) (q4 : Int32) : Int32 :=
  if (q4 &&& (2 : Int32)) = (0 : Int32) then (own_f0_13 q1 q2 q3 q4 q1) else
  (own_f0_13 q1 q2 q3 q4 (0 : Int32))
set_option maxRecDepth 65536 in
set_option maxHeartbeats 40000000 in
theorem sg0_64 {p : Program} (l : Launch) {e : Env} {s : State} {m : MethodId} {args : Array Value} {below : List Frame} {meth : Method} {c : Code} {Z : State} {a0 : Array Value} (hw : ∀ d ∈ tables_1, d.before a0 Z = true) (hx : p.tables.exec = Jvm.exec) (hZ : Z.Warmed39 s.vm) (hby : c.code = code) (hml : c.maxLocals = 17) (hown : s.vm.findClass "com/example/laima/laima/policies/BestRanksBeforePinLaw" = some m.cls) (hnm : meth.name = "law") (hret : meth.sig.returnType = (some .boolean)) (hlk : meth.locks = false) (v1 : Int32) (v2 : Int32) (v3 : Int32) (v4 : Int32) (v5 : Int32) (v6 : Int32) (v7 : Int32) (v8 : Int32) {h0 : Heap} {n0 : Nat} (Z0 : n0 ≤ h0.size) {T0 : State} {L0 : List Loc} (X0 : Stand p l e room_1 s m args below meth c T0 L0 0 0) (N0 : Fr n0 L0) (e0 : T0.heap = h0)  :
    own_Fin p.tables e below (own_End below s (own_L n0 (.int (own_f0_64 v1 v2 v3 v4 v5 v6 v7 v8))) 0 0) T0 (mkF m 64 #[.val (.int v1), .val (.int v2), .val (.int v3), .val (.int v4), .val (.int v5), .val (.int v6), .val (.int v7), .val (.int v8), .unset, .unset, .unset, .unset, .unset, .unset, .unset, .unset, .unset] []) := by
  refine own_iload X0 hx (hb hby at_64) (pc' := 66) rfl rfl ?_
  refine own_iloadN X0 hx (hb hby at_66) (pc' := 67) rfl rfl ?_
  refine own_iload X0 hx (hb hby at_67) (pc' := 69) rfl rfl ?_
  obtain ⟨_, _, ⟨T11, L11, k11, n11⟩, -, X11, ⟨Lc11, hQ11, l11, y11, z11⟩, st11⟩ := Jvm.LawKit.callS X0 hx (y := (⟨"com/example/laima/laima/policies/Best", "ranksBefore", "(III)Z"⟩ : MethodName)) hown (mvT hZ (hw _ (List.mem_of_getElem? (i := 1) rfl))) (mvT hZ (hw _ (List.mem_of_getElem? (i := 2) rfl))) (mvT hZ (hw _ (List.mem_of_getElem? (i := 3) rfl))) (mvT hZ (hw _ (List.mem_of_getElem? (i := 4) rfl))) (by decide) (backOf (W := 0) (rm1 l Z a0 hw [] v5 v2 v6 h0 n0 Z0 ) hZ (hw _ (List.mem_of_getElem? (i := 4) rfl)) (hw _ (List.mem_of_getElem? (i := 3) rfl)) (by decide) (by decide)) (g := (mkF m 69 #[.val (.int v1), .val (.int v2), .val (.int v3), .val (.int v4), .val (.int v5), .val (.int v6), .val (.int v7), .val (.int v8), .unset, .unset, .unset, .unset, .unset, .unset, .unset, .unset, .unset] [(.int v6), (.int v2), (.int v5)])) rfl (by rw [hml]; rfl) (argsL := [(.int v5), (.int v2), (.int v6)]) (rest := []) (lenOf pd_0 rfl) rfl (by show 2 * 0 + _ ≤ _; exact Nat.le_of_eq rfl) (hb hby at_69) (fun _ _ => ⟨rfl, e0, (by decide : 0 + 0 ≤ _), (by decide : 0 + 0 ≤ _)⟩)
  dsimp only [Pt.U, Pt.locs, Pt.cells, Pt.slots] at X11 l11 y11 z11 st11 hQ11
  subst l11 y11 z11
  obtain ⟨rfl, N11q, e11'⟩ := hQ11
  have N11 := Fr.app N0 N11q
  refine own_st ?_ st11
  show own_Fin _ _ _ _ T11 (mkF m 72 #[.val (.int v1), .val (.int v2), .val (.int v3), .val (.int v4), .val (.int v5), .val (.int v6), .val (.int v7), .val (.int v8), .unset, .unset, .unset, .unset, .unset, .unset, .unset, .unset, .unset] [(.int (own_f1 v5 v2 v6))])
  refine own_istore X11 hx (hb hby at_72) (pc' := 74) rfl (Ls' := #[.val (.int v1), .val (.int v2), .val (.int v3), .val (.int v4), .val (.int v5), .val (.int v6), .val (.int v7), .val (.int v8), .val (.int (own_f1 v5 v2 v6)), .unset, .unset, .unset, .unset, .unset, .unset, .unset, .unset]) rfl ?_
  refine own_iload X11 hx (hb hby at_74) (pc' := 76) rfl rfl ?_
  refine own_iload X11 hx (hb hby at_76) (pc' := 78) rfl rfl ?_
  refine own_iloadN X11 hx (hb hby at_78) (pc' := 79) rfl rfl ?_
  obtain ⟨_, _, ⟨T12, L12, k12, n12⟩, -, X12, ⟨Lc12, hQ12, l12, y12, z12⟩, st12⟩ := Jvm.LawKit.callS X11 hx (y := (⟨"com/example/laima/laima/policies/Best", "ranksBefore", "(III)Z"⟩ : MethodName)) hown (mvT hZ (hw _ (List.mem_of_getElem? (i := 1) rfl))) (mvT hZ (hw _ (List.mem_of_getElem? (i := 2) rfl))) (mvT hZ (hw _ (List.mem_of_getElem? (i := 3) rfl))) (mvT hZ (hw _ (List.mem_of_getElem? (i := 4) rfl))) (by decide) (backOf (W := 0) (rm1 l Z a0 hw [] v8 v6 v2 h0 n0 Z0 ) hZ (hw _ (List.mem_of_getElem? (i := 4) rfl)) (hw _ (List.mem_of_getElem? (i := 3) rfl)) (by decide) (by decide)) (g := (mkF m 79 #[.val (.int v1), .val (.int v2), .val (.int v3), .val (.int v4), .val (.int v5), .val (.int v6), .val (.int v7), .val (.int v8), .val (.int (own_f1 v5 v2 v6)), .unset, .unset, .unset, .unset, .unset, .unset, .unset, .unset] [(.int v2), (.int v6), (.int v8)])) rfl (by rw [hml]; rfl) (argsL := [(.int v8), (.int v6), (.int v2)]) (rest := []) (lenOf pd_0 rfl) rfl (by show 2 * 0 + _ ≤ _; exact Nat.le_of_eq rfl) (hb hby at_79) (fun _ _ => ⟨rfl, e11', (by decide : 0 + 0 ≤ _), (by decide : 0 + 0 ≤ _)⟩)
  dsimp only [Pt.U, Pt.locs, Pt.cells, Pt.slots] at X12 l12 y12 z12 st12 hQ12
  subst l12 y12 z12
  obtain ⟨rfl, N12q, e12'⟩ := hQ12
  have N12 := Fr.app N11 N12q
  refine own_st ?_ st12
  show own_Fin _ _ _ _ T12 (mkF m 82 #[.val (.int v1), .val (.int v2), .val (.int v3), .val (.int v4), .val (.int v5), .val (.int v6), .val (.int v7), .val (.int v8), .val (.int (own_f1 v5 v2 v6)), .unset, .unset, .unset, .unset, .unset, .unset, .unset, .unset] [(.int (own_f1 v8 v6 v2))])
  refine own_istore X12 hx (hb hby at_82) (pc' := 84) rfl (Ls' := #[.val (.int v1), .val (.int v2), .val (.int v3), .val (.int v4), .val (.int v5), .val (.int v6), .val (.int v7), .val (.int v8), .val (.int (own_f1 v5 v2 v6)), .val (.int (own_f1 v8 v6 v2)), .unset, .unset, .unset, .unset, .unset, .unset, .unset]) rfl ?_
  refine own_iload X12 hx (hb hby at_84) (pc' := 86) rfl rfl ?_
  refine own_iloadN X12 hx (hb hby at_86) (pc' := 87) rfl rfl ?_
  refine own_iload X12 hx (hb hby at_87) (pc' := 89) rfl rfl ?_
  obtain ⟨_, _, ⟨T13, L13, k13, n13⟩, -, X13, ⟨Lc13, hQ13, l13, y13, z13⟩, st13⟩ := Jvm.LawKit.callS X12 hx (y := (⟨"com/example/laima/laima/policies/Best", "ranksBefore", "(III)Z"⟩ : MethodName)) hown (mvT hZ (hw _ (List.mem_of_getElem? (i := 1) rfl))) (mvT hZ (hw _ (List.mem_of_getElem? (i := 2) rfl))) (mvT hZ (hw _ (List.mem_of_getElem? (i := 3) rfl))) (mvT hZ (hw _ (List.mem_of_getElem? (i := 4) rfl))) (by decide) (backOf (W := 0) (rm1 l Z a0 hw [] v7 v2 v6 h0 n0 Z0 ) hZ (hw _ (List.mem_of_getElem? (i := 4) rfl)) (hw _ (List.mem_of_getElem? (i := 3) rfl)) (by decide) (by decide)) (g := (mkF m 89 #[.val (.int v1), .val (.int v2), .val (.int v3), .val (.int v4), .val (.int v5), .val (.int v6), .val (.int v7), .val (.int v8), .val (.int (own_f1 v5 v2 v6)), .val (.int (own_f1 v8 v6 v2)), .unset, .unset, .unset, .unset, .unset, .unset, .unset] [(.int v6), (.int v2), (.int v7)])) rfl (by rw [hml]; rfl) (argsL := [(.int v7), (.int v2), (.int v6)]) (rest := []) (lenOf pd_0 rfl) rfl (by show 2 * 0 + _ ≤ _; exact Nat.le_of_eq rfl) (hb hby at_89) (fun _ _ => ⟨rfl, e12', (by decide : 0 + 0 ≤ _), (by decide : 0 + 0 ≤ _)⟩)
  dsimp only [Pt.U, Pt.locs, Pt.cells, Pt.slots] at X13 l13 y13 z13 st13 hQ13
  subst l13 y13 z13
  obtain ⟨rfl, N13q, e13'⟩ := hQ13
  have N13 := Fr.app N12 N13q
  refine own_st ?_ st13
  show own_Fin _ _ _ _ T13 (mkF m 92 #[.val (.int v1), .val (.int v2), .val (.int v3), .val (.int v4), .val (.int v5), .val (.int v6), .val (.int v7), .val (.int v8), .val (.int (own_f1 v5 v2 v6)), .val (.int (own_f1 v8 v6 v2)), .unset, .unset, .unset, .unset, .unset, .unset, .unset] [(.int (own_f1 v7 v2 v6))])
  refine own_istore X13 hx (hb hby at_92) (pc' := 94) rfl (Ls' := #[.val (.int v1), .val (.int v2), .val (.int v3), .val (.int v4), .val (.int v5), .val (.int v6), .val (.int v7), .val (.int v8), .val (.int (own_f1 v5 v2 v6)), .val (.int (own_f1 v8 v6 v2)), .val (.int (own_f1 v7 v2 v6)), .unset, .unset, .unset, .unset, .unset, .unset]) rfl ?_
  refine own_iconst X13 hx (hb hby at_94) (pc' := 95) rfl (v := (-1 : Int32)) rfl ?_
  refine own_iloadN X13 hx (hb hby at_95) (pc' := 96) rfl rfl ?_
  refine own_iload X13 hx (hb hby at_96) (pc' := 98) rfl rfl ?_
  obtain ⟨_, _, ⟨T14, L14, k14, n14⟩, -, X14, ⟨Lc14, hQ14, l14, y14, z14⟩, st14⟩ := Jvm.LawKit.callS X13 hx (y := (⟨"com/example/laima/laima/policies/Best", "ranksBefore", "(III)Z"⟩ : MethodName)) hown (mvT hZ (hw _ (List.mem_of_getElem? (i := 1) rfl))) (mvT hZ (hw _ (List.mem_of_getElem? (i := 2) rfl))) (mvT hZ (hw _ (List.mem_of_getElem? (i := 3) rfl))) (mvT hZ (hw _ (List.mem_of_getElem? (i := 4) rfl))) (by decide) (backOf (W := 0) (rm1 l Z a0 hw [] (-1 : Int32) v2 v6 h0 n0 Z0 ) hZ (hw _ (List.mem_of_getElem? (i := 4) rfl)) (hw _ (List.mem_of_getElem? (i := 3) rfl)) (by decide) (by decide)) (g := (mkF m 98 #[.val (.int v1), .val (.int v2), .val (.int v3), .val (.int v4), .val (.int v5), .val (.int v6), .val (.int v7), .val (.int v8), .val (.int (own_f1 v5 v2 v6)), .val (.int (own_f1 v8 v6 v2)), .val (.int (own_f1 v7 v2 v6)), .unset, .unset, .unset, .unset, .unset, .unset] [(.int v6), (.int v2), (.int (-1 : Int32))])) rfl (by rw [hml]; rfl) (argsL := [(.int (-1 : Int32)), (.int v2), (.int v6)]) (rest := []) (lenOf pd_0 rfl) rfl (by show 2 * 0 + _ ≤ _; exact Nat.le_of_eq rfl) (hb hby at_98) (fun _ _ => ⟨rfl, e13', (by decide : 0 + 0 ≤ _), (by decide : 0 + 0 ≤ _)⟩)
  dsimp only [Pt.U, Pt.locs, Pt.cells, Pt.slots] at X14 l14 y14 z14 st14 hQ14
  subst l14 y14 z14
  obtain ⟨rfl, N14q, e14'⟩ := hQ14
  have N14 := Fr.app N13 N14q
  refine own_st ?_ st14
  show own_Fin _ _ _ _ T14 (mkF m 101 #[.val (.int v1), .val (.int v2), .val (.int v3), .val (.int v4), .val (.int v5), .val (.int v6), .val (.int v7), .val (.int v8), .val (.int (own_f1 v5 v2 v6)), .val (.int (own_f1 v8 v6 v2)), .val (.int (own_f1 v7 v2 v6)), .unset, .unset, .unset, .unset, .unset, .unset] [(.int (own_f1 (-1 : Int32) v2 v6))])
  refine own_istore X14 hx (hb hby at_101) (pc' := 103) rfl (Ls' := #[.val (.int v1), .val (.int v2), .val (.int v3), .val (.int v4), .val (.int v5), .val (.int v6), .val (.int v7), .val (.int v8), .val (.int (own_f1 v5 v2 v6)), .val (.int (own_f1 v8 v6 v2)), .val (.int (own_f1 v7 v2 v6)), .val (.int (own_f1 (-1 : Int32) v2 v6)), .unset, .unset, .unset, .unset, .unset]) rfl ?_
  refine own_iconst X14 hx (hb hby at_103) (pc' := 104) rfl (v := (1 : Int32)) rfl ?_
  refine own_iloadN X14 hx (hb hby at_104) (pc' := 105) rfl rfl ?_
  refine own_iload X14 hx (hb hby at_105) (pc' := 107) rfl rfl ?_
  obtain ⟨_, _, ⟨T15, L15, k15, n15⟩, -, X15, ⟨Lc15, hQ15, l15, y15, z15⟩, st15⟩ := Jvm.LawKit.callS X14 hx (y := (⟨"com/example/laima/laima/policies/Best", "ranksBefore", "(III)Z"⟩ : MethodName)) hown (mvT hZ (hw _ (List.mem_of_getElem? (i := 1) rfl))) (mvT hZ (hw _ (List.mem_of_getElem? (i := 2) rfl))) (mvT hZ (hw _ (List.mem_of_getElem? (i := 3) rfl))) (mvT hZ (hw _ (List.mem_of_getElem? (i := 4) rfl))) (by decide) (backOf (W := 0) (rm1 l Z a0 hw [] (1 : Int32) v2 v6 h0 n0 Z0 ) hZ (hw _ (List.mem_of_getElem? (i := 4) rfl)) (hw _ (List.mem_of_getElem? (i := 3) rfl)) (by decide) (by decide)) (g := (mkF m 107 #[.val (.int v1), .val (.int v2), .val (.int v3), .val (.int v4), .val (.int v5), .val (.int v6), .val (.int v7), .val (.int v8), .val (.int (own_f1 v5 v2 v6)), .val (.int (own_f1 v8 v6 v2)), .val (.int (own_f1 v7 v2 v6)), .val (.int (own_f1 (-1 : Int32) v2 v6)), .unset, .unset, .unset, .unset, .unset] [(.int v6), (.int v2), (.int (1 : Int32))])) rfl (by rw [hml]; rfl) (argsL := [(.int (1 : Int32)), (.int v2), (.int v6)]) (rest := []) (lenOf pd_0 rfl) rfl (by show 2 * 0 + _ ≤ _; exact Nat.le_of_eq rfl) (hb hby at_107) (fun _ _ => ⟨rfl, e14', (by decide : 0 + 0 ≤ _), (by decide : 0 + 0 ≤ _)⟩)
  dsimp only [Pt.U, Pt.locs, Pt.cells, Pt.slots] at X15 l15 y15 z15 st15 hQ15
  subst l15 y15 z15
  obtain ⟨rfl, N15q, e15'⟩ := hQ15
  have N15 := Fr.app N14 N15q
  refine own_st ?_ st15
  show own_Fin _ _ _ _ T15 (mkF m 110 #[.val (.int v1), .val (.int v2), .val (.int v3), .val (.int v4), .val (.int v5), .val (.int v6), .val (.int v7), .val (.int v8), .val (.int (own_f1 v5 v2 v6)), .val (.int (own_f1 v8 v6 v2)), .val (.int (own_f1 v7 v2 v6)), .val (.int (own_f1 (-1 : Int32) v2 v6)), .unset, .unset, .unset, .unset, .unset] [(.int (own_f1 (1 : Int32) v2 v6))])
  refine own_istore X15 hx (hb hby at_110) (pc' := 112) rfl (Ls' := #[.val (.int v1), .val (.int v2), .val (.int v3), .val (.int v4), .val (.int v5), .val (.int v6), .val (.int v7), .val (.int v8), .val (.int (own_f1 v5 v2 v6)), .val (.int (own_f1 v8 v6 v2)), .val (.int (own_f1 v7 v2 v6)), .val (.int (own_f1 (-1 : Int32) v2 v6)), .val (.int (own_f1 (1 : Int32) v2 v6)), .unset, .unset, .unset, .unset]) rfl ?_
  refine own_iconst X15 hx (hb hby at_112) (pc' := 113) rfl (v := (0 : Int32)) rfl ?_
  refine own_iloadN X15 hx (hb hby at_113) (pc' := 114) rfl rfl ?_
  refine own_iload X15 hx (hb hby at_114) (pc' := 116) rfl rfl ?_
  obtain ⟨_, _, ⟨T16, L16, k16, n16⟩, -, X16, ⟨Lc16, hQ16, l16, y16, z16⟩, st16⟩ := Jvm.LawKit.callS X15 hx (y := (⟨"com/example/laima/laima/policies/Best", "ranksBefore", "(III)Z"⟩ : MethodName)) hown (mvT hZ (hw _ (List.mem_of_getElem? (i := 1) rfl))) (mvT hZ (hw _ (List.mem_of_getElem? (i := 2) rfl))) (mvT hZ (hw _ (List.mem_of_getElem? (i := 3) rfl))) (mvT hZ (hw _ (List.mem_of_getElem? (i := 4) rfl))) (by decide) (backOf (W := 0) (rm1 l Z a0 hw [] (0 : Int32) v2 v6 h0 n0 Z0 ) hZ (hw _ (List.mem_of_getElem? (i := 4) rfl)) (hw _ (List.mem_of_getElem? (i := 3) rfl)) (by decide) (by decide)) (g := (mkF m 116 #[.val (.int v1), .val (.int v2), .val (.int v3), .val (.int v4), .val (.int v5), .val (.int v6), .val (.int v7), .val (.int v8), .val (.int (own_f1 v5 v2 v6)), .val (.int (own_f1 v8 v6 v2)), .val (.int (own_f1 v7 v2 v6)), .val (.int (own_f1 (-1 : Int32) v2 v6)), .val (.int (own_f1 (1 : Int32) v2 v6)), .unset, .unset, .unset, .unset] [(.int v6), (.int v2), (.int (0 : Int32))])) rfl (by rw [hml]; rfl) (argsL := [(.int (0 : Int32)), (.int v2), (.int v6)]) (rest := []) (lenOf pd_0 rfl) rfl (by show 2 * 0 + _ ≤ _; exact Nat.le_of_eq rfl) (hb hby at_116) (fun _ _ => ⟨rfl, e15', (by decide : 0 + 0 ≤ _), (by decide : 0 + 0 ≤ _)⟩)
  dsimp only [Pt.U, Pt.locs, Pt.cells, Pt.slots] at X16 l16 y16 z16 st16 hQ16
  subst l16 y16 z16
  obtain ⟨rfl, N16q, e16'⟩ := hQ16
  have N16 := Fr.app N15 N16q
  refine own_st ?_ st16
  show own_Fin _ _ _ _ T16 (mkF m 119 #[.val (.int v1), .val (.int v2), .val (.int v3), .val (.int v4), .val (.int v5), .val (.int v6), .val (.int v7), .val (.int v8), .val (.int (own_f1 v5 v2 v6)), .val (.int (own_f1 v8 v6 v2)), .val (.int (own_f1 v7 v2 v6)), .val (.int (own_f1 (-1 : Int32) v2 v6)), .val (.int (own_f1 (1 : Int32) v2 v6)), .unset, .unset, .unset, .unset] [(.int (own_f1 (0 : Int32) v2 v6))])
  refine own_istore X16 hx (hb hby at_119) (pc' := 121) rfl (Ls' := #[.val (.int v1), .val (.int v2), .val (.int v3), .val (.int v4), .val (.int v5), .val (.int v6), .val (.int v7), .val (.int v8), .val (.int (own_f1 v5 v2 v6)), .val (.int (own_f1 v8 v6 v2)), .val (.int (own_f1 v7 v2 v6)), .val (.int (own_f1 (-1 : Int32) v2 v6)), .val (.int (own_f1 (1 : Int32) v2 v6)), .val (.int (own_f1 (0 : Int32) v2 v6)), .unset, .unset, .unset]) rfl ?_
  refine own_iconst X16 hx (hb hby at_121) (pc' := 122) rfl (v := (0 : Int32)) rfl ?_
  refine own_iload X16 hx (hb hby at_122) (pc' := 124) rfl rfl ?_
  refine own_iloadN X16 hx (hb hby at_124) (pc' := 125) rfl rfl ?_
  obtain ⟨_, _, ⟨T17, L17, k17, n17⟩, -, X17, ⟨Lc17, hQ17, l17, y17, z17⟩, st17⟩ := Jvm.LawKit.callS X16 hx (y := (⟨"com/example/laima/laima/policies/Best", "ranksBefore", "(III)Z"⟩ : MethodName)) hown (mvT hZ (hw _ (List.mem_of_getElem? (i := 1) rfl))) (mvT hZ (hw _ (List.mem_of_getElem? (i := 2) rfl))) (mvT hZ (hw _ (List.mem_of_getElem? (i := 3) rfl))) (mvT hZ (hw _ (List.mem_of_getElem? (i := 4) rfl))) (by decide) (backOf (W := 0) (rm1 l Z a0 hw [] (0 : Int32) v6 v2 h0 n0 Z0 ) hZ (hw _ (List.mem_of_getElem? (i := 4) rfl)) (hw _ (List.mem_of_getElem? (i := 3) rfl)) (by decide) (by decide)) (g := (mkF m 125 #[.val (.int v1), .val (.int v2), .val (.int v3), .val (.int v4), .val (.int v5), .val (.int v6), .val (.int v7), .val (.int v8), .val (.int (own_f1 v5 v2 v6)), .val (.int (own_f1 v8 v6 v2)), .val (.int (own_f1 v7 v2 v6)), .val (.int (own_f1 (-1 : Int32) v2 v6)), .val (.int (own_f1 (1 : Int32) v2 v6)), .val (.int (own_f1 (0 : Int32) v2 v6)), .unset, .unset, .unset] [(.int v2), (.int v6), (.int (0 : Int32))])) rfl (by rw [hml]; rfl) (argsL := [(.int (0 : Int32)), (.int v6), (.int v2)]) (rest := []) (lenOf pd_0 rfl) rfl (by show 2 * 0 + _ ≤ _; exact Nat.le_of_eq rfl) (hb hby at_125) (fun _ _ => ⟨rfl, e16', (by decide : 0 + 0 ≤ _), (by decide : 0 + 0 ≤ _)⟩)
  dsimp only [Pt.U, Pt.locs, Pt.cells, Pt.slots] at X17 l17 y17 z17 st17 hQ17
  subst l17 y17 z17
  obtain ⟨rfl, N17q, e17'⟩ := hQ17
  have N17 := Fr.app N16 N17q
  refine own_st ?_ st17
  show own_Fin _ _ _ _ T17 (mkF m 128 #[.val (.int v1), .val (.int v2), .val (.int v3), .val (.int v4), .val (.int v5), .val (.int v6), .val (.int v7), .val (.int v8), .val (.int (own_f1 v5 v2 v6)), .val (.int (own_f1 v8 v6 v2)), .val (.int (own_f1 v7 v2 v6)), .val (.int (own_f1 (-1 : Int32) v2 v6)), .val (.int (own_f1 (1 : Int32) v2 v6)), .val (.int (own_f1 (0 : Int32) v2 v6)), .unset, .unset, .unset] [(.int (own_f1 (0 : Int32) v6 v2))])
  refine own_istore X17 hx (hb hby at_128) (pc' := 130) rfl (Ls' := #[.val (.int v1), .val (.int v2), .val (.int v3), .val (.int v4), .val (.int v5), .val (.int v6), .val (.int v7), .val (.int v8), .val (.int (own_f1 v5 v2 v6)), .val (.int (own_f1 v8 v6 v2)), .val (.int (own_f1 v7 v2 v6)), .val (.int (own_f1 (-1 : Int32) v2 v6)), .val (.int (own_f1 (1 : Int32) v2 v6)), .val (.int (own_f1 (0 : Int32) v2 v6)), .val (.int (own_f1 (0 : Int32) v6 v2)), .unset, .unset]) rfl ?_
  refine own_iconst X17 hx (hb hby at_130) (pc' := 131) rfl (v := (0 : Int32)) rfl ?_
  refine own_iloadN X17 hx (hb hby at_131) (pc' := 132) rfl rfl ?_
  refine own_iload X17 hx (hb hby at_132) (pc' := 134) rfl rfl ?_
  obtain ⟨_, _, ⟨T18, L18, k18, n18⟩, -, X18, ⟨Lc18, hQ18, l18, y18, z18⟩, st18⟩ := Jvm.LawKit.callS X17 hx (y := (⟨"java/lang/Math", "min", "(II)I"⟩ : MethodName)) hown (mvT hZ (hw _ (List.mem_of_getElem? (i := 5) rfl))) (mvT hZ (hw _ (List.mem_of_getElem? (i := 6) rfl))) (mvT hZ (hw _ (List.mem_of_getElem? (i := 7) rfl))) (mvT hZ (hw _ (List.mem_of_getElem? (i := 8) rfl))) (by decide) (backOf (W := 1) (rm2 l Z a0 hw [] v2 v6 h0 n0 Z0 ) hZ (hw _ (List.mem_of_getElem? (i := 8) rfl)) (hw _ (List.mem_of_getElem? (i := 7) rfl)) (by decide) (by decide)) (g := (mkF m 134 #[.val (.int v1), .val (.int v2), .val (.int v3), .val (.int v4), .val (.int v5), .val (.int v6), .val (.int v7), .val (.int v8), .val (.int (own_f1 v5 v2 v6)), .val (.int (own_f1 v8 v6 v2)), .val (.int (own_f1 v7 v2 v6)), .val (.int (own_f1 (-1 : Int32) v2 v6)), .val (.int (own_f1 (1 : Int32) v2 v6)), .val (.int (own_f1 (0 : Int32) v2 v6)), .val (.int (own_f1 (0 : Int32) v6 v2)), .unset, .unset] [(.int v6), (.int v2), (.int (0 : Int32))])) rfl (by rw [hml]; rfl) (argsL := [(.int v2), (.int v6)]) (rest := [(.int (0 : Int32))]) (lenOf pd_1 rfl) rfl (by show 2 * 0 + _ ≤ _; exact Nat.le_of_eq rfl) (hb hby at_134) (fun _ _ => ⟨rfl, e17', (by decide : 0 + 0 ≤ _), (by decide : 0 + 0 ≤ _)⟩)
  dsimp only [Pt.U, Pt.locs, Pt.cells, Pt.slots] at X18 l18 y18 z18 st18 hQ18
  subst l18 y18 z18
  obtain ⟨rfl, N18q, e18'⟩ := hQ18
  have N18 := Fr.app N17 N18q
  refine own_st ?_ st18
  show own_Fin _ _ _ _ T18 (mkF m 137 #[.val (.int v1), .val (.int v2), .val (.int v3), .val (.int v4), .val (.int v5), .val (.int v6), .val (.int v7), .val (.int v8), .val (.int (own_f1 v5 v2 v6)), .val (.int (own_f1 v8 v6 v2)), .val (.int (own_f1 v7 v2 v6)), .val (.int (own_f1 (-1 : Int32) v2 v6)), .val (.int (own_f1 (1 : Int32) v2 v6)), .val (.int (own_f1 (0 : Int32) v2 v6)), .val (.int (own_f1 (0 : Int32) v6 v2)), .unset, .unset] [(.int (own_f2 v2 v6)), (.int (0 : Int32))])
  refine own_iloadN X18 hx (hb hby at_137) (pc' := 138) rfl rfl ?_
  refine own_iload X18 hx (hb hby at_138) (pc' := 140) rfl rfl ?_
  obtain ⟨_, _, ⟨T19, L19, k19, n19⟩, -, X19, ⟨Lc19, hQ19, l19, y19, z19⟩, st19⟩ := Jvm.LawKit.callS X18 hx (y := (⟨"java/lang/Math", "max", "(II)I"⟩ : MethodName)) hown (mvT hZ (hw _ (List.mem_of_getElem? (i := 9) rfl))) (mvT hZ (hw _ (List.mem_of_getElem? (i := 10) rfl))) (mvT hZ (hw _ (List.mem_of_getElem? (i := 7) rfl))) (mvT hZ (hw _ (List.mem_of_getElem? (i := 11) rfl))) (by decide) (backOf (W := 2) (rm3 l Z a0 hw [] v2 v6 h0 n0 Z0 ) hZ (hw _ (List.mem_of_getElem? (i := 11) rfl)) (hw _ (List.mem_of_getElem? (i := 7) rfl)) (by decide) (by decide)) (g := (mkF m 140 #[.val (.int v1), .val (.int v2), .val (.int v3), .val (.int v4), .val (.int v5), .val (.int v6), .val (.int v7), .val (.int v8), .val (.int (own_f1 v5 v2 v6)), .val (.int (own_f1 v8 v6 v2)), .val (.int (own_f1 v7 v2 v6)), .val (.int (own_f1 (-1 : Int32) v2 v6)), .val (.int (own_f1 (1 : Int32) v2 v6)), .val (.int (own_f1 (0 : Int32) v2 v6)), .val (.int (own_f1 (0 : Int32) v6 v2)), .unset, .unset] [(.int v6), (.int v2), (.int (own_f2 v2 v6)), (.int (0 : Int32))])) rfl (by rw [hml]; rfl) (argsL := [(.int v2), (.int v6)]) (rest := [(.int (own_f2 v2 v6)), (.int (0 : Int32))]) (lenOf pd_1 rfl) rfl (by show 2 * 0 + _ ≤ _; exact Nat.le_of_eq rfl) (hb hby at_140) (fun _ _ => ⟨rfl, e18', (by decide : 0 + 0 ≤ _), (by decide : 0 + 0 ≤ _)⟩)
  dsimp only [Pt.U, Pt.locs, Pt.cells, Pt.slots] at X19 l19 y19 z19 st19 hQ19
  subst l19 y19 z19
  obtain ⟨rfl, N19q, e19'⟩ := hQ19
  have N19 := Fr.app N18 N19q
  refine own_st ?_ st19
  show own_Fin _ _ _ _ T19 (mkF m 143 #[.val (.int v1), .val (.int v2), .val (.int v3), .val (.int v4), .val (.int v5), .val (.int v6), .val (.int v7), .val (.int v8), .val (.int (own_f1 v5 v2 v6)), .val (.int (own_f1 v8 v6 v2)), .val (.int (own_f1 v7 v2 v6)), .val (.int (own_f1 (-1 : Int32) v2 v6)), .val (.int (own_f1 (1 : Int32) v2 v6)), .val (.int (own_f1 (0 : Int32) v2 v6)), .val (.int (own_f1 (0 : Int32) v6 v2)), .unset, .unset] [(.int (own_f3 v2 v6)), (.int (own_f2 v2 v6)), (.int (0 : Int32))])
  obtain ⟨_, _, ⟨T20, L20, k20, n20⟩, -, X20, ⟨Lc20, hQ20, l20, y20, z20⟩, st20⟩ := Jvm.LawKit.callS X19 hx (y := (⟨"com/example/laima/laima/policies/Best", "ranksBefore", "(III)Z"⟩ : MethodName)) hown (mvT hZ (hw _ (List.mem_of_getElem? (i := 1) rfl))) (mvT hZ (hw _ (List.mem_of_getElem? (i := 2) rfl))) (mvT hZ (hw _ (List.mem_of_getElem? (i := 3) rfl))) (mvT hZ (hw _ (List.mem_of_getElem? (i := 4) rfl))) (by decide) (backOf (W := 0) (rm1 l Z a0 hw [] (0 : Int32) (own_f2 v2 v6) (own_f3 v2 v6) h0 n0 Z0 ) hZ (hw _ (List.mem_of_getElem? (i := 4) rfl)) (hw _ (List.mem_of_getElem? (i := 3) rfl)) (by decide) (by decide)) (g := (mkF m 143 #[.val (.int v1), .val (.int v2), .val (.int v3), .val (.int v4), .val (.int v5), .val (.int v6), .val (.int v7), .val (.int v8), .val (.int (own_f1 v5 v2 v6)), .val (.int (own_f1 v8 v6 v2)), .val (.int (own_f1 v7 v2 v6)), .val (.int (own_f1 (-1 : Int32) v2 v6)), .val (.int (own_f1 (1 : Int32) v2 v6)), .val (.int (own_f1 (0 : Int32) v2 v6)), .val (.int (own_f1 (0 : Int32) v6 v2)), .unset, .unset] [(.int (own_f3 v2 v6)), (.int (own_f2 v2 v6)), (.int (0 : Int32))])) rfl (by rw [hml]; rfl) (argsL := [(.int (0 : Int32)), (.int (own_f2 v2 v6)), (.int (own_f3 v2 v6))]) (rest := []) (lenOf pd_0 rfl) rfl (by show 2 * 0 + _ ≤ _; exact Nat.le_of_eq rfl) (hb hby at_143) (fun _ _ => ⟨rfl, e19', (by decide : 0 + 0 ≤ _), (by decide : 0 + 0 ≤ _)⟩)
  dsimp only [Pt.U, Pt.locs, Pt.cells, Pt.slots] at X20 l20 y20 z20 st20 hQ20
  subst l20 y20 z20
  obtain ⟨rfl, N20q, e20'⟩ := hQ20
  have N20 := Fr.app N19 N20q
  refine own_st ?_ st20
  show own_Fin _ _ _ _ T20 (mkF m 146 #[.val (.int v1), .val (.int v2), .val (.int v3), .val (.int v4), .val (.int v5), .val (.int v6), .val (.int v7), .val (.int v8), .val (.int (own_f1 v5 v2 v6)), .val (.int (own_f1 v8 v6 v2)), .val (.int (own_f1 v7 v2 v6)), .val (.int (own_f1 (-1 : Int32) v2 v6)), .val (.int (own_f1 (1 : Int32) v2 v6)), .val (.int (own_f1 (0 : Int32) v2 v6)), .val (.int (own_f1 (0 : Int32) v6 v2)), .unset, .unset] [(.int (own_f1 (0 : Int32) (own_f2 v2 v6) (own_f3 v2 v6)))])
  refine own_istore X20 hx (hb hby at_146) (pc' := 148) rfl (Ls' := #[.val (.int v1), .val (.int v2), .val (.int v3), .val (.int v4), .val (.int v5), .val (.int v6), .val (.int v7), .val (.int v8), .val (.int (own_f1 v5 v2 v6)), .val (.int (own_f1 v8 v6 v2)), .val (.int (own_f1 v7 v2 v6)), .val (.int (own_f1 (-1 : Int32) v2 v6)), .val (.int (own_f1 (1 : Int32) v2 v6)), .val (.int (own_f1 (0 : Int32) v2 v6)), .val (.int (own_f1 (0 : Int32) v6 v2)), .val (.int (own_f1 (0 : Int32) (own_f2 v2 v6) (own_f3 v2 v6))), .unset]) rfl ?_
  refine own_iconst X20 hx (hb hby at_148) (pc' := 149) rfl (v := (0 : Int32)) rfl ?_
  refine own_iloadN X20 hx (hb hby at_149) (pc' := 150) rfl rfl ?_
  refine own_iloadN X20 hx (hb hby at_150) (pc' := 151) rfl rfl ?_
  obtain ⟨_, _, ⟨T21, L21, k21, n21⟩, -, X21, ⟨Lc21, hQ21, l21, y21, z21⟩, st21⟩ := Jvm.LawKit.callS X20 hx (y := (⟨"com/example/laima/laima/policies/Best", "ranksBefore", "(III)Z"⟩ : MethodName)) hown (mvT hZ (hw _ (List.mem_of_getElem? (i := 1) rfl))) (mvT hZ (hw _ (List.mem_of_getElem? (i := 2) rfl))) (mvT hZ (hw _ (List.mem_of_getElem? (i := 3) rfl))) (mvT hZ (hw _ (List.mem_of_getElem? (i := 4) rfl))) (by decide) (backOf (W := 0) (rm1 l Z a0 hw [] (0 : Int32) v2 v2 h0 n0 Z0 ) hZ (hw _ (List.mem_of_getElem? (i := 4) rfl)) (hw _ (List.mem_of_getElem? (i := 3) rfl)) (by decide) (by decide)) (g := (mkF m 151 #[.val (.int v1), .val (.int v2), .val (.int v3), .val (.int v4), .val (.int v5), .val (.int v6), .val (.int v7), .val (.int v8), .val (.int (own_f1 v5 v2 v6)), .val (.int (own_f1 v8 v6 v2)), .val (.int (own_f1 v7 v2 v6)), .val (.int (own_f1 (-1 : Int32) v2 v6)), .val (.int (own_f1 (1 : Int32) v2 v6)), .val (.int (own_f1 (0 : Int32) v2 v6)), .val (.int (own_f1 (0 : Int32) v6 v2)), .val (.int (own_f1 (0 : Int32) (own_f2 v2 v6) (own_f3 v2 v6))), .unset] [(.int v2), (.int v2), (.int (0 : Int32))])) rfl (by rw [hml]; rfl) (argsL := [(.int (0 : Int32)), (.int v2), (.int v2)]) (rest := []) (lenOf pd_0 rfl) rfl (by show 2 * 0 + _ ≤ _; exact Nat.le_of_eq rfl) (hb hby at_151) (fun _ _ => ⟨rfl, e20', (by decide : 0 + 0 ≤ _), (by decide : 0 + 0 ≤ _)⟩)
  dsimp only [Pt.U, Pt.locs, Pt.cells, Pt.slots] at X21 l21 y21 z21 st21 hQ21
  subst l21 y21 z21
  obtain ⟨rfl, N21q, e21'⟩ := hQ21
  have N21 := Fr.app N20 N21q
  refine own_st ?_ st21
  show own_Fin _ _ _ _ T21 (mkF m 154 #[.val (.int v1), .val (.int v2), .val (.int v3), .val (.int v4), .val (.int v5), .val (.int v6), .val (.int v7), .val (.int v8), .val (.int (own_f1 v5 v2 v6)), .val (.int (own_f1 v8 v6 v2)), .val (.int (own_f1 v7 v2 v6)), .val (.int (own_f1 (-1 : Int32) v2 v6)), .val (.int (own_f1 (1 : Int32) v2 v6)), .val (.int (own_f1 (0 : Int32) v2 v6)), .val (.int (own_f1 (0 : Int32) v6 v2)), .val (.int (own_f1 (0 : Int32) (own_f2 v2 v6) (own_f3 v2 v6))), .unset] [(.int (own_f1 (0 : Int32) v2 v2))])
  refine own_istore X21 hx (hb hby at_154) (pc' := 156) rfl (Ls' := #[.val (.int v1), .val (.int v2), .val (.int v3), .val (.int v4), .val (.int v5), .val (.int v6), .val (.int v7), .val (.int v8), .val (.int (own_f1 v5 v2 v6)), .val (.int (own_f1 v8 v6 v2)), .val (.int (own_f1 v7 v2 v6)), .val (.int (own_f1 (-1 : Int32) v2 v6)), .val (.int (own_f1 (1 : Int32) v2 v6)), .val (.int (own_f1 (0 : Int32) v2 v6)), .val (.int (own_f1 (0 : Int32) v6 v2)), .val (.int (own_f1 (0 : Int32) (own_f2 v2 v6) (own_f3 v2 v6))), .val (.int (own_f1 (0 : Int32) v2 v2))]) rfl ?_
  refine own_iload X21 hx (hb hby at_156) (pc' := 158) rfl rfl ?_
  refine own_iload X21 hx (hb hby at_158) (pc' := 160) rfl rfl ?_
  by_cases hc22 : (own_f1 v5 v2 v6) = (own_f1 v7 v2 v6)
  · refine own_icmpYes X21 hx (hb hby at_160) (teq hc22).1 (pc' := 165) (by decide) (by decide) ?_
    refine own_iload X21 hx (hb hby at_165) (pc' := 167) rfl rfl ?_
    by_cases hc23 : (own_f1 (-1 : Int32) v2 v6) = (0 : Int32)
    · refine own_ifYes X21 hx (hb hby at_167) ((if0 _ _).trans (teq hc23).1) (pc' := 180) (by decide) (by decide) ?_
      refine own_iconst X21 hx (hb hby at_180) (pc' := 181) rfl (v := (0 : Int32)) rfl ?_
      refine own_retN X21 hx (t := .boolean) hret (by simp) hlk (hb hby at_181) (by decide) (by decide) ?_
      exact ⟨(congrArg some (congrArg Value.int (show _ = (own_f0_64 v1 v2 v3 v4 v5 v6 v7 v8) from by rw [own_f0_64, if_pos hc22, if_pos hc23]; rfl))), N21⟩
    · refine own_ifNo X21 hx (hb hby at_167) (pc' := 170) rfl ((if0 _ _).trans (feq hc23).1) ?_
      refine own_iload X21 hx (hb hby at_170) (pc' := 172) rfl rfl ?_
      by_cases hc24 : (own_f1 (1 : Int32) v2 v6) = (0 : Int32)
      · refine own_ifNo X21 hx (hb hby at_172) (pc' := 175) rfl ((if0 _ _).trans (teq hc24).2) ?_
        refine own_iload X21 hx (hb hby at_175) (pc' := 177) rfl rfl ?_
        by_cases hc25 : (own_f1 (0 : Int32) v2 v2) = (0 : Int32)
        · refine own_ifYes X21 hx (hb hby at_177) ((if0 _ _).trans (teq hc25).1) (pc' := 182) (by decide) (by decide) ?_
          refine own_iloadN X21 hx (hb hby at_182) (pc' := 183) rfl rfl ?_
          refine own_iload X21 hx (hb hby at_183) (pc' := 185) rfl rfl ?_
          by_cases hc26 : v2 = v6
          · refine own_icmpYes X21 hx (hb hby at_185) (teq hc26).1 (pc' := 209) (by decide) (by decide) ?_
            refine own_iload X21 hx (hb hby at_209) (pc' := 211) rfl rfl ?_
            by_cases hc27 : (own_f1 (0 : Int32) v2 v6) = (0 : Int32)
            · refine own_ifNo X21 hx (hb hby at_211) (pc' := 214) rfl ((if0 _ _).trans (teq hc27).2) ?_
              refine own_iload X21 hx (hb hby at_214) (pc' := 216) rfl rfl ?_
              by_cases hc28 : (own_f1 (0 : Int32) v6 v2) = (0 : Int32)
              · refine own_ifYes X21 hx (hb hby at_216) ((if0 _ _).trans (teq hc28).1) (pc' := 221) (by decide) (by decide) ?_
                refine own_iload X21 hx (hb hby at_221) (pc' := 223) rfl rfl ?_
                by_cases hc29 : v5 = (0 : Int32)
                · refine own_ifYes X21 hx (hb hby at_223) ((if0 _ _).trans (teq hc29).1) (pc' := 235) (by decide) (by decide) ?_
                  refine own_iload X21 hx (hb hby at_235) (pc' := 237) rfl rfl ?_
                  refine own_ifNo X21 hx (hb hby at_237) (pc' := 240) rfl ((if0 _ _).trans (teq hc29).2) ?_
                  refine own_iload X21 hx (hb hby at_240) (pc' := 242) rfl rfl ?_
                  by_cases hc30 : (own_f1 v5 v2 v6) = (0 : Int32)
                  · refine own_ifNo X21 hx (hb hby at_242) (pc' := 245) rfl ((if0 _ _).trans (teq hc30).2) ?_
                    refine own_iload X21 hx (hb hby at_245) (pc' := 247) rfl rfl ?_
                    by_cases hc31 : (own_f1 v8 v6 v2) = (0 : Int32)
                    · refine own_ifYes X21 hx (hb hby at_247) ((if0 _ _).trans (teq hc31).1) (pc' := 252) (by decide) (by decide) ?_
                      refine own_iconst X21 hx (hb hby at_252) (pc' := 253) rfl (v := (1 : Int32)) rfl ?_
                      refine own_retN X21 hx (t := .boolean) hret (by simp) hlk (hb hby at_253) (by decide) (by decide) ?_
                      exact ⟨(congrArg some (congrArg Value.int (show _ = (own_f0_64 v1 v2 v3 v4 v5 v6 v7 v8) from by rw [own_f0_64, if_pos hc22, if_neg hc23, if_pos hc24, if_pos hc25, if_pos hc26, if_pos hc27, if_pos hc28, if_pos hc29, if_pos hc30, if_pos hc31]; rfl))), N21⟩
                    · refine own_ifNo X21 hx (hb hby at_247) (pc' := 250) rfl ((if0 _ _).trans (feq hc31).1) ?_
                      refine own_iconst X21 hx (hb hby at_250) (pc' := 251) rfl (v := (0 : Int32)) rfl ?_
                      refine own_retN X21 hx (t := .boolean) hret (by simp) hlk (hb hby at_251) (by decide) (by decide) ?_
                      exact ⟨(congrArg some (congrArg Value.int (show _ = (own_f0_64 v1 v2 v3 v4 v5 v6 v7 v8) from by rw [own_f0_64, if_pos hc22, if_neg hc23, if_pos hc24, if_pos hc25, if_pos hc26, if_pos hc27, if_pos hc28, if_pos hc29, if_pos hc30, if_neg hc31]; rfl))), N21⟩
                  · refine own_ifYes X21 hx (hb hby at_242) ((if0 _ _).trans (feq hc30).2) (pc' := 250) (by decide) (by decide) ?_
                    refine own_iconst X21 hx (hb hby at_250) (pc' := 251) rfl (v := (0 : Int32)) rfl ?_
                    refine own_retN X21 hx (t := .boolean) hret (by simp) hlk (hb hby at_251) (by decide) (by decide) ?_
                    exact ⟨(congrArg some (congrArg Value.int (show _ = (own_f0_64 v1 v2 v3 v4 v5 v6 v7 v8) from by rw [own_f0_64, if_pos hc22, if_neg hc23, if_pos hc24, if_pos hc25, if_pos hc26, if_pos hc27, if_pos hc28, if_pos hc29, if_neg hc30]; rfl))), N21⟩
                · refine own_ifNo X21 hx (hb hby at_223) (pc' := 226) rfl ((if0 _ _).trans (feq hc29).1) ?_
                  refine own_iload X21 hx (hb hby at_226) (pc' := 228) rfl rfl ?_
                  refine own_iload X21 hx (hb hby at_228) (pc' := 230) rfl rfl ?_
                  by_cases hc32 : (own_f1 v5 v2 v6) = (own_f1 v8 v6 v2)
                  · refine own_icmpNo X21 hx (hb hby at_230) (pc' := 233) rfl (teq hc32).2 ?_
                    refine own_iconst X21 hx (hb hby at_233) (pc' := 234) rfl (v := (0 : Int32)) rfl ?_
                    refine own_retN X21 hx (t := .boolean) hret (by simp) hlk (hb hby at_234) (by decide) (by decide) ?_
                    exact ⟨(congrArg some (congrArg Value.int (show _ = (own_f0_64 v1 v2 v3 v4 v5 v6 v7 v8) from by rw [own_f0_64, if_pos hc22, if_neg hc23, if_pos hc24, if_pos hc25, if_pos hc26, if_pos hc27, if_pos hc28, if_neg hc29, if_pos hc32]; rfl))), N21⟩
                  · refine own_icmpYes X21 hx (hb hby at_230) (feq hc32).2 (pc' := 235) (by decide) (by decide) ?_
                    refine own_iload X21 hx (hb hby at_235) (pc' := 237) rfl rfl ?_
                    refine own_ifYes X21 hx (hb hby at_237) ((if0 _ _).trans (feq hc29).2) (pc' := 252) (by decide) (by decide) ?_
                    refine own_iconst X21 hx (hb hby at_252) (pc' := 253) rfl (v := (1 : Int32)) rfl ?_
                    refine own_retN X21 hx (t := .boolean) hret (by simp) hlk (hb hby at_253) (by decide) (by decide) ?_
                    exact ⟨(congrArg some (congrArg Value.int (show _ = (own_f0_64 v1 v2 v3 v4 v5 v6 v7 v8) from by rw [own_f0_64, if_pos hc22, if_neg hc23, if_pos hc24, if_pos hc25, if_pos hc26, if_pos hc27, if_pos hc28, if_neg hc29, if_neg hc32]; rfl))), N21⟩
              · refine own_ifNo X21 hx (hb hby at_216) (pc' := 219) rfl ((if0 _ _).trans (feq hc28).1) ?_
                refine own_iconst X21 hx (hb hby at_219) (pc' := 220) rfl (v := (0 : Int32)) rfl ?_
                refine own_retN X21 hx (t := .boolean) hret (by simp) hlk (hb hby at_220) (by decide) (by decide) ?_
                exact ⟨(congrArg some (congrArg Value.int (show _ = (own_f0_64 v1 v2 v3 v4 v5 v6 v7 v8) from by rw [own_f0_64, if_pos hc22, if_neg hc23, if_pos hc24, if_pos hc25, if_pos hc26, if_pos hc27, if_neg hc28]; rfl))), N21⟩
            · refine own_ifYes X21 hx (hb hby at_211) ((if0 _ _).trans (feq hc27).2) (pc' := 219) (by decide) (by decide) ?_
              refine own_iconst X21 hx (hb hby at_219) (pc' := 220) rfl (v := (0 : Int32)) rfl ?_
              refine own_retN X21 hx (t := .boolean) hret (by simp) hlk (hb hby at_220) (by decide) (by decide) ?_
              exact ⟨(congrArg some (congrArg Value.int (show _ = (own_f0_64 v1 v2 v3 v4 v5 v6 v7 v8) from by rw [own_f0_64, if_pos hc22, if_neg hc23, if_pos hc24, if_pos hc25, if_pos hc26, if_neg hc27]; rfl))), N21⟩
          · refine own_icmpNo X21 hx (hb hby at_185) (pc' := 188) rfl (feq hc26).1 ?_
            refine own_iload X21 hx (hb hby at_188) (pc' := 190) rfl rfl ?_
            refine own_iload X21 hx (hb hby at_190) (pc' := 192) rfl rfl ?_
            by_cases hc33 : (own_f1 (0 : Int32) v2 v6) = (own_f1 (0 : Int32) v6 v2)
            · refine own_icmpYes X21 hx (hb hby at_192) (teq hc33).1 (pc' := 207) (by decide) (by decide) ?_
              refine own_iconst X21 hx (hb hby at_207) (pc' := 208) rfl (v := (0 : Int32)) rfl ?_
              refine own_retN X21 hx (t := .boolean) hret (by simp) hlk (hb hby at_208) (by decide) (by decide) ?_
              exact ⟨(congrArg some (congrArg Value.int (show _ = (own_f0_64 v1 v2 v3 v4 v5 v6 v7 v8) from by rw [own_f0_64, if_pos hc22, if_neg hc23, if_pos hc24, if_pos hc25, if_neg hc26, if_pos hc33]; rfl))), N21⟩
            · refine own_icmpNo X21 hx (hb hby at_192) (pc' := 195) rfl (feq hc33).1 ?_
              refine own_iload X21 hx (hb hby at_195) (pc' := 197) rfl rfl ?_
              by_cases hc34 : (own_f1 (0 : Int32) (own_f2 v2 v6) (own_f3 v2 v6)) = (0 : Int32)
              · refine own_ifYes X21 hx (hb hby at_197) ((if0 _ _).trans (teq hc34).1) (pc' := 207) (by decide) (by decide) ?_
                refine own_iconst X21 hx (hb hby at_207) (pc' := 208) rfl (v := (0 : Int32)) rfl ?_
                refine own_retN X21 hx (t := .boolean) hret (by simp) hlk (hb hby at_208) (by decide) (by decide) ?_
                exact ⟨(congrArg some (congrArg Value.int (show _ = (own_f0_64 v1 v2 v3 v4 v5 v6 v7 v8) from by rw [own_f0_64, if_pos hc22, if_neg hc23, if_pos hc24, if_pos hc25, if_neg hc26, if_neg hc33, if_pos hc34]; rfl))), N21⟩
              · refine own_ifNo X21 hx (hb hby at_197) (pc' := 200) rfl ((if0 _ _).trans (feq hc34).1) ?_
                refine own_iload X21 hx (hb hby at_200) (pc' := 202) rfl rfl ?_
                refine own_iload X21 hx (hb hby at_202) (pc' := 204) rfl rfl ?_
                by_cases hc35 : (own_f1 v5 v2 v6) = (own_f1 v8 v6 v2)
                · refine own_icmpNo X21 hx (hb hby at_204) (pc' := 207) rfl (teq hc35).2 ?_
                  refine own_iconst X21 hx (hb hby at_207) (pc' := 208) rfl (v := (0 : Int32)) rfl ?_
                  refine own_retN X21 hx (t := .boolean) hret (by simp) hlk (hb hby at_208) (by decide) (by decide) ?_
                  exact ⟨(congrArg some (congrArg Value.int (show _ = (own_f0_64 v1 v2 v3 v4 v5 v6 v7 v8) from by rw [own_f0_64, if_pos hc22, if_neg hc23, if_pos hc24, if_pos hc25, if_neg hc26, if_neg hc33, if_neg hc34, if_pos hc35]; rfl))), N21⟩
                · refine own_icmpYes X21 hx (hb hby at_204) (feq hc35).2 (pc' := 252) (by decide) (by decide) ?_
                  refine own_iconst X21 hx (hb hby at_252) (pc' := 253) rfl (v := (1 : Int32)) rfl ?_
                  refine own_retN X21 hx (t := .boolean) hret (by simp) hlk (hb hby at_253) (by decide) (by decide) ?_
                  exact ⟨(congrArg some (congrArg Value.int (show _ = (own_f0_64 v1 v2 v3 v4 v5 v6 v7 v8) from by rw [own_f0_64, if_pos hc22, if_neg hc23, if_pos hc24, if_pos hc25, if_neg hc26, if_neg hc33, if_neg hc34, if_neg hc35]; rfl))), N21⟩
        · refine own_ifNo X21 hx (hb hby at_177) (pc' := 180) rfl ((if0 _ _).trans (feq hc25).1) ?_
          refine own_iconst X21 hx (hb hby at_180) (pc' := 181) rfl (v := (0 : Int32)) rfl ?_
          refine own_retN X21 hx (t := .boolean) hret (by simp) hlk (hb hby at_181) (by decide) (by decide) ?_
          exact ⟨(congrArg some (congrArg Value.int (show _ = (own_f0_64 v1 v2 v3 v4 v5 v6 v7 v8) from by rw [own_f0_64, if_pos hc22, if_neg hc23, if_pos hc24, if_neg hc25]; rfl))), N21⟩
      · refine own_ifYes X21 hx (hb hby at_172) ((if0 _ _).trans (feq hc24).2) (pc' := 180) (by decide) (by decide) ?_
        refine own_iconst X21 hx (hb hby at_180) (pc' := 181) rfl (v := (0 : Int32)) rfl ?_
        refine own_retN X21 hx (t := .boolean) hret (by simp) hlk (hb hby at_181) (by decide) (by decide) ?_
        exact ⟨(congrArg some (congrArg Value.int (show _ = (own_f0_64 v1 v2 v3 v4 v5 v6 v7 v8) from by rw [own_f0_64, if_pos hc22, if_neg hc23, if_neg hc24]; rfl))), N21⟩
  · refine own_icmpNo X21 hx (hb hby at_160) (pc' := 163) rfl (feq hc22).1 ?_
    refine own_iconst X21 hx (hb hby at_163) (pc' := 164) rfl (v := (0 : Int32)) rfl ?_
    refine own_retN X21 hx (t := .boolean) hret (by simp) hlk (hb hby at_164) (by decide) (by decide) ?_
    exact ⟨(congrArg some (congrArg Value.int (show _ = (own_f0_64 v1 v2 v3 v4 v5 v6 v7 v8) from by rw [own_f0_64, if_neg hc22]; rfl))), N21⟩
set_option maxRecDepth 65536 in
set_option maxHeartbeats 40000000 in
theorem sg0_47 {p : Program} (l : Launch) {e : Env} {s : State} {m : MethodId} {args : Array Value} {below : List Frame} {meth : Method} {c : Code} {Z : State} {a0 : Array Value} (hw : ∀ d ∈ tables_1, d.before a0 Z = true) (hx : p.tables.exec = Jvm.exec) (hZ : Z.Warmed39 s.vm) (hby : c.code = code) (hml : c.maxLocals = 17) (hown : s.vm.findClass "com/example/laima/laima/policies/BestRanksBeforePinLaw" = some m.cls) (hnm : meth.name = "law") (hret : meth.sig.returnType = (some .boolean)) (hlk : meth.locks = false) (v1 : Int32) (v2 : Int32) (v3 : Int32) (v4 : Int32) (v5 : Int32) (v6 : Int32) (v7 : Int32) {h0 : Heap} {n0 : Nat} (Z0 : n0 ≤ h0.size) {T0 : State} {L0 : List Loc} (X0 : Stand p l e room_1 s m args below meth c T0 L0 0 0) (N0 : Fr n0 L0) (e0 : T0.heap = h0)  :
    own_Fin p.tables e below (own_End below s (own_L n0 (.int (own_f0_47 v1 v2 v3 v4 v5 v6 v7))) 0 0) T0 (mkF m 47 #[.val (.int v1), .val (.int v2), .val (.int v3), .val (.int v4), .val (.int v5), .val (.int v6), .val (.int v7), .unset, .unset, .unset, .unset, .unset, .unset, .unset, .unset, .unset, .unset] []) := by
  refine own_iload X0 hx (hb hby at_47) (pc' := 49) rfl rfl ?_
  refine own_ldcInt X0 hx hZ hown (hw _ (List.mem_of_getElem? (i := 0) rfl)) (hb hby at_49) (pc' := 51) rfl ?_
  by_cases hc10 : v5 = (-2147483648 : Int32)
  · refine own_icmpNo X0 hx (hb hby at_51) (pc' := 54) rfl (teq hc10).2 ?_
    refine own_ldcInt X0 hx hZ hown (hw _ (List.mem_of_getElem? (i := 12) rfl)) (hb hby at_54) (pc' := 56) rfl ?_
    refine own_goto X0 hx (hb hby at_56) (pc' := 62) (by decide) (by decide) ?_
    refine own_istore X0 hx (hb hby at_62) (pc' := 64) rfl (Ls' := #[.val (.int v1), .val (.int v2), .val (.int v3), .val (.int v4), .val (.int v5), .val (.int v6), .val (.int v7), .val (.int (2147483647 : Int32)), .unset, .unset, .unset, .unset, .unset, .unset, .unset, .unset, .unset]) rfl ?_
    refine own_cast ?_ (sg0_64 l hw hx hZ hby hml hown hnm hret hlk v1 v2 v3 v4 v5 v6 v7 (2147483647 : Int32) Z0 X0 N0 e0)
    rw [own_f0_47, if_pos hc10]
  · refine own_icmpYes X0 hx (hb hby at_51) (feq hc10).2 (pc' := 59) (by decide) (by decide) ?_
    refine own_iload X0 hx (hb hby at_59) (pc' := 61) rfl rfl ?_
    refine own_ineg X0 hx (hb hby at_61) (pc' := 62) rfl ?_
    refine own_istore X0 hx (hb hby at_62) (pc' := 64) rfl (Ls' := #[.val (.int v1), .val (.int v2), .val (.int v3), .val (.int v4), .val (.int v5), .val (.int v6), .val (.int v7), .val (.int (-v5)), .unset, .unset, .unset, .unset, .unset, .unset, .unset, .unset, .unset]) rfl ?_
    refine own_cast ?_ (sg0_64 l hw hx hZ hby hml hown hnm hret hlk v1 v2 v3 v4 v5 v6 v7 (-v5) Z0 X0 N0 e0)
    rw [own_f0_47, if_neg hc10]
set_option maxRecDepth 65536 in
set_option maxHeartbeats 40000000 in
theorem sg0_26 {p : Program} (l : Launch) {e : Env} {s : State} {m : MethodId} {args : Array Value} {below : List Frame} {meth : Method} {c : Code} {Z : State} {a0 : Array Value} (hw : ∀ d ∈ tables_1, d.before a0 Z = true) (hx : p.tables.exec = Jvm.exec) (hZ : Z.Warmed39 s.vm) (hby : c.code = code) (hml : c.maxLocals = 17) (hown : s.vm.findClass "com/example/laima/laima/policies/BestRanksBeforePinLaw" = some m.cls) (hnm : meth.name = "law") (hret : meth.sig.returnType = (some .boolean)) (hlk : meth.locks = false) (v1 : Int32) (v2 : Int32) (v3 : Int32) (v4 : Int32) (v5 : Int32) (v6 : Int32) {h0 : Heap} {n0 : Nat} (Z0 : n0 ≤ h0.size) {T0 : State} {L0 : List Loc} (X0 : Stand p l e room_1 s m args below meth c T0 L0 0 0) (N0 : Fr n0 L0) (e0 : T0.heap = h0)  :
    own_Fin p.tables e below (own_End below s (own_L n0 (.int (own_f0_26 v1 v2 v3 v4 v5 v6))) 0 0) T0 (mkF m 26 #[.val (.int v1), .val (.int v2), .val (.int v3), .val (.int v4), .val (.int v5), .val (.int v6), .unset, .unset, .unset, .unset, .unset, .unset, .unset, .unset, .unset, .unset, .unset] []) := by
  refine own_iload X0 hx (hb hby at_26) (pc' := 28) rfl rfl ?_
  by_cases hc8 : v5 < (0 : Int32)
  · refine own_ifNo X0 hx (hb hby at_28) (pc' := 31) rfl ((if0 _ _).trans (tlt hc8).2.1) ?_
    refine own_iconst X0 hx (hb hby at_31) (pc' := 32) rfl (v := (-1 : Int32)) rfl ?_
    refine own_goto X0 hx (hb hby at_32) (pc' := 45) (by decide) (by decide) ?_
    refine own_istore X0 hx (hb hby at_45) (pc' := 47) rfl (Ls' := #[.val (.int v1), .val (.int v2), .val (.int v3), .val (.int v4), .val (.int v5), .val (.int v6), .val (.int (-1 : Int32)), .unset, .unset, .unset, .unset, .unset, .unset, .unset, .unset, .unset, .unset]) rfl ?_
    refine own_cast ?_ (sg0_47 l hw hx hZ hby hml hown hnm hret hlk v1 v2 v3 v4 v5 v6 (-1 : Int32) Z0 X0 N0 e0)
    rw [own_f0_26, if_pos hc8]
  · refine own_ifYes X0 hx (hb hby at_28) ((if0 _ _).trans (flt hc8).2.1) (pc' := 35) (by decide) (by decide) ?_
    refine own_iload X0 hx (hb hby at_35) (pc' := 37) rfl rfl ?_
    by_cases hc9 : (0 : Int32) < v5
    · refine own_ifNo X0 hx (hb hby at_37) (pc' := 40) rfl ((if0 _ _).trans (tlt hc9).2.2.2) ?_
      refine own_iconst X0 hx (hb hby at_40) (pc' := 41) rfl (v := (1 : Int32)) rfl ?_
      refine own_goto X0 hx (hb hby at_41) (pc' := 45) (by decide) (by decide) ?_
      refine own_istore X0 hx (hb hby at_45) (pc' := 47) rfl (Ls' := #[.val (.int v1), .val (.int v2), .val (.int v3), .val (.int v4), .val (.int v5), .val (.int v6), .val (.int (1 : Int32)), .unset, .unset, .unset, .unset, .unset, .unset, .unset, .unset, .unset, .unset]) rfl ?_
      refine own_cast ?_ (sg0_47 l hw hx hZ hby hml hown hnm hret hlk v1 v2 v3 v4 v5 v6 (1 : Int32) Z0 X0 N0 e0)
      rw [own_f0_26, if_neg hc8, if_pos hc9]
    · refine own_ifYes X0 hx (hb hby at_37) ((if0 _ _).trans (flt hc9).2.2.2) (pc' := 44) (by decide) (by decide) ?_
      refine own_iconst X0 hx (hb hby at_44) (pc' := 45) rfl (v := (0 : Int32)) rfl ?_
      refine own_istore X0 hx (hb hby at_45) (pc' := 47) rfl (Ls' := #[.val (.int v1), .val (.int v2), .val (.int v3), .val (.int v4), .val (.int v5), .val (.int v6), .val (.int (0 : Int32)), .unset, .unset, .unset, .unset, .unset, .unset, .unset, .unset, .unset, .unset]) rfl ?_
      refine own_cast ?_ (sg0_47 l hw hx hZ hby hml hown hnm hret hlk v1 v2 v3 v4 v5 v6 (0 : Int32) Z0 X0 N0 e0)
      rw [own_f0_26, if_neg hc8, if_neg hc9]
set_option maxRecDepth 65536 in
set_option maxHeartbeats 40000000 in
theorem sg0_13 {p : Program} (l : Launch) {e : Env} {s : State} {m : MethodId} {args : Array Value} {below : List Frame} {meth : Method} {c : Code} {Z : State} {a0 : Array Value} (hw : ∀ d ∈ tables_1, d.before a0 Z = true) (hx : p.tables.exec = Jvm.exec) (hZ : Z.Warmed39 s.vm) (hby : c.code = code) (hml : c.maxLocals = 17) (hown : s.vm.findClass "com/example/laima/laima/policies/BestRanksBeforePinLaw" = some m.cls) (hnm : meth.name = "law") (hret : meth.sig.returnType = (some .boolean)) (hlk : meth.locks = false) (v1 : Int32) (v2 : Int32) (v3 : Int32) (v4 : Int32) (v5 : Int32) {h0 : Heap} {n0 : Nat} (Z0 : n0 ≤ h0.size) {T0 : State} {L0 : List Loc} (X0 : Stand p l e room_1 s m args below meth c T0 L0 0 0) (N0 : Fr n0 L0) (e0 : T0.heap = h0)  :
    own_Fin p.tables e below (own_End below s (own_L n0 (.int (own_f0_13 v1 v2 v3 v4 v5))) 0 0) T0 (mkF m 13 #[.val (.int v1), .val (.int v2), .val (.int v3), .val (.int v4), .val (.int v5), .unset, .unset, .unset, .unset, .unset, .unset, .unset, .unset, .unset, .unset, .unset, .unset] []) := by
  refine own_iloadN X0 hx (hb hby at_13) (pc' := 14) rfl rfl ?_
  refine own_iconst X0 hx (hb hby at_14) (pc' := 15) rfl (v := (1 : Int32)) rfl ?_
  refine own_iand X0 hx (hb hby at_15) (pc' := 16) rfl ?_
  by_cases hc7 : (v4 &&& (1 : Int32)) = (0 : Int32)
  · refine own_ifYes X0 hx (hb hby at_16) ((if0 _ _).trans (teq hc7).1) (pc' := 23) (by decide) (by decide) ?_
    refine own_iloadN X0 hx (hb hby at_23) (pc' := 24) rfl rfl ?_
    refine own_istore X0 hx (hb hby at_24) (pc' := 26) rfl (Ls' := #[.val (.int v1), .val (.int v2), .val (.int v3), .val (.int v4), .val (.int v5), .val (.int v3), .unset, .unset, .unset, .unset, .unset, .unset, .unset, .unset, .unset, .unset, .unset]) rfl ?_
    refine own_cast ?_ (sg0_26 l hw hx hZ hby hml hown hnm hret hlk v1 v2 v3 v4 v5 v3 Z0 X0 N0 e0)
    rw [own_f0_13, if_pos hc7]
  · refine own_ifNo X0 hx (hb hby at_16) (pc' := 19) rfl ((if0 _ _).trans (feq hc7).1) ?_
    refine own_iloadN X0 hx (hb hby at_19) (pc' := 20) rfl rfl ?_
    refine own_goto X0 hx (hb hby at_20) (pc' := 24) (by decide) (by decide) ?_
    refine own_istore X0 hx (hb hby at_24) (pc' := 26) rfl (Ls' := #[.val (.int v1), .val (.int v2), .val (.int v3), .val (.int v4), .val (.int v5), .val (.int v2), .unset, .unset, .unset, .unset, .unset, .unset, .unset, .unset, .unset, .unset, .unset]) rfl ?_
    refine own_cast ?_ (sg0_26 l hw hx hZ hby hml hown hnm hret hlk v1 v2 v3 v4 v5 v2 Z0 X0 N0 e0)
    rw [own_f0_13, if_neg hc7]
set_option maxRecDepth 65536 in
set_option maxHeartbeats 40000000 in
theorem sg0_0 {p : Program} (l : Launch) {e : Env} {s : State} {m : MethodId} {args : Array Value} {below : List Frame} {meth : Method} {c : Code} {Z : State} {a0 : Array Value} (hw : ∀ d ∈ tables_1, d.before a0 Z = true) (hx : p.tables.exec = Jvm.exec) (hZ : Z.Warmed39 s.vm) (hby : c.code = code) (hml : c.maxLocals = 17) (hown : s.vm.findClass "com/example/laima/laima/policies/BestRanksBeforePinLaw" = some m.cls) (hnm : meth.name = "law") (hret : meth.sig.returnType = (some .boolean)) (hlk : meth.locks = false) (q1 : Int32) (q2 : Int32) (q3 : Int32) (q4 : Int32) {h0 : Heap} {n0 : Nat} (Z0 : n0 ≤ h0.size) {T0 : State} {L0 : List Loc} (X0 : Stand p l e room_1 s m args below meth c T0 L0 0 0) (N0 : Fr n0 L0) (e0 : T0.heap = h0)  :
    own_Fin p.tables e below (own_End below s (own_L n0 (.int (own_f0 q1 q2 q3 q4))) 0 0) T0 (mkF m 0 #[.val (.int q1), .val (.int q2), .val (.int q3), .val (.int q4), .unset, .unset, .unset, .unset, .unset, .unset, .unset, .unset, .unset, .unset, .unset, .unset, .unset] []) := by
  refine own_iloadN X0 hx (hb hby at_0) (pc' := 1) rfl rfl ?_
  refine own_iconst X0 hx (hb hby at_1) (pc' := 2) rfl (v := (2 : Int32)) rfl ?_
  refine own_iand X0 hx (hb hby at_2) (pc' := 3) rfl ?_
  by_cases hc6 : (q4 &&& (2 : Int32)) = (0 : Int32)
  · refine own_ifYes X0 hx (hb hby at_3) ((if0 _ _).trans (teq hc6).1) (pc' := 10) (by decide) (by decide) ?_
    refine own_iloadN X0 hx (hb hby at_10) (pc' := 11) rfl rfl ?_
    refine own_istore X0 hx (hb hby at_11) (pc' := 13) rfl (Ls' := #[.val (.int q1), .val (.int q2), .val (.int q3), .val (.int q4), .val (.int q1), .unset, .unset, .unset, .unset, .unset, .unset, .unset, .unset, .unset, .unset, .unset, .unset]) rfl ?_
    refine own_cast ?_ (sg0_13 l hw hx hZ hby hml hown hnm hret hlk q1 q2 q3 q4 q1 Z0 X0 N0 e0)
    rw [own_f0, if_pos hc6]
  · refine own_ifNo X0 hx (hb hby at_3) (pc' := 6) rfl ((if0 _ _).trans (feq hc6).1) ?_
    refine own_iconst X0 hx (hb hby at_6) (pc' := 7) rfl (v := (0 : Int32)) rfl ?_
    refine own_goto X0 hx (hb hby at_7) (pc' := 11) (by decide) (by decide) ?_
    refine own_istore X0 hx (hb hby at_11) (pc' := 13) rfl (Ls' := #[.val (.int q1), .val (.int q2), .val (.int q3), .val (.int q4), .val (.int (0 : Int32)), .unset, .unset, .unset, .unset, .unset, .unset, .unset, .unset, .unset, .unset, .unset, .unset]) rfl ?_
    refine own_cast ?_ (sg0_13 l hw hx hZ hby hml hown hnm hret hlk q1 q2 q3 q4 (0 : Int32) Z0 X0 N0 e0)
    rw [own_f0, if_neg hc6]
theorem ef_0 (m : MethodId) (q1 : Int32) (q2 : Int32) (q3 : Int32) (q4 : Int32) : entryFrame m #[(.int q1), (.int q2), (.int q3), (.int q4)] maxLocals = mkF m 0 #[.val (.int q1), .val (.int q2), .val (.int q3), .val (.int q4), .unset, .unset, .unset, .unset, .unset, .unset, .unset, .unset, .unset, .unset, .unset, .unset, .unset] [] := by first | (simp [entryFrame, mkF, argsToLocals, Value.category, maxLocals]; done) | rfl
set_option maxRecDepth 65536 in
set_option maxHeartbeats 40000000 in
theorem rm0 (l : Launch) (Z : State) (a0 : Array Value) (hw : ∀ d ∈ tables_1, d.before a0 Z = true) (ws : List Jvm.Cond) (q1 : Int32) (q2 : Int32) (q3 : Int32) (q4 : Int32) (h0 : Heap) (n0 : Nat) (Z0 : n0 ≤ h0.size)  (own_law : ∀ (q1 : Int32) (q2 : Int32) (q3 : Int32) (q4 : Int32), (own_f0 q1 q2 q3 q4) = 1) :
    MetFree l x (head1 (Jvm.Cond.code x code maxLocals ret :: ws) room_1) (fun a U => a = #[(.int q1), (.int q2), (.int q3), (.int q4)] ∧ Z.Warmed39 U.vm ∧ U.heap = h0) (fun _ _ _ _ _ => True) (fun _ U o U' => ∃ v L, o = .returned v ∧ (own_L n0 (.int 1)) v U'.heap L ∧ FrameEnd U o U' L 0 0) := by
  refine MetFree.of_bodySF (plainFor_of_name pn_0) hisR ?_
  intro p e s m args below meth c s₁ Bd hml0 hP hK
  obtain ⟨rfl, hZ, hh⟩ := hP
  have hown : s.vm.findClass "com/example/laima/laima/policies/BestRanksBeforePinLaw" = some m.cls := findClass_of_methodNamed Bd.named
  have hnm := (name_of_methodNamed Bd.named Bd.method).1
  have X0 : Stand p l e room_1 s m #[(.int q1), (.int q2), (.int q3), (.int q4)] below meth c s₁ [] 0 0 := Stand.of_body Bd
  have e0 : s₁.heap = h0 := by rw [← hh, Bd.state]; rfl
  have H := sg0_0 l hw Bd.exec hZ Bd.bytes hml0 hown hnm Bd.returns Bd.notSynchronized q1 q2 q3 q4 Z0 X0 (Fr.nil n0) e0
  rw [own_law] at H
  obtain ⟨t, h1, h2, o, h3, h4⟩ := H
  exact ⟨t, o, castTop (ef_0 m q1 q2 q3 q4) h1, h2, h3, h4⟩
theorem own_b64 (x : Int64) : -9223372036854775808 ≤ x.toInt ∧ x.toInt < 9223372036854775808 := ⟨Int64.le_toInt x, Int64.toInt_lt x⟩
theorem own_b32 (x : Int32) : -2147483648 ≤ x.toInt ∧ x.toInt < 2147483648 := ⟨Int32.le_toInt x, Int32.toInt_lt x⟩
theorem own_wrap64 (n : Int) : ∃ k : Int, n.bmod (2 ^ 64) = n + k * 18446744073709551616 := by
  rw [Int.bmod_def]
  split
  · exact ⟨-(n / 18446744073709551616), by omega⟩
  · exact ⟨-(n / 18446744073709551616) - 1, by omega⟩
theorem own_add64 (x y : Int64) : ∃ k : Int, (x + y).toInt = x.toInt + y.toInt + k * 18446744073709551616 := by
  rw [Int64.toInt_add]; exact own_wrap64 _
theorem own_sub64 (x y : Int64) : ∃ k : Int, (x - y).toInt = x.toInt - y.toInt + k * 18446744073709551616 := by
  rw [Int64.toInt_sub]; exact own_wrap64 _
theorem own_wrap32 (n : Int) : ∃ k : Int, n.bmod (2 ^ 32) = n + k * 4294967296 := by
  rw [Int.bmod_def]
  split
  · exact ⟨-(n / 4294967296), by omega⟩
  · exact ⟨-(n / 4294967296) - 1, by omega⟩
theorem own_add32 (x y : Int32) : ∃ k : Int, (x + y).toInt = x.toInt + y.toInt + k * 4294967296 := by
  rw [Int32.toInt_add]; exact own_wrap32 _
theorem own_sub32 (x y : Int32) : ∃ k : Int, (x - y).toInt = x.toInt - y.toInt + k * 4294967296 := by
  rw [Int32.toInt_sub]; exact own_wrap32 _
theorem own_m63 (x : Int64) : (x &&& (9223372036854775807 : Int64)).toInt = x.toInt % 9223372036854775808 := Jvm.Kit.i64_mask x _ (k := 63) (by decide) (by decide)
theorem own_m31 (x : Int32) : (x &&& (2147483647 : Int32)).toInt = x.toInt % 2147483648 := Jvm.Kit.i32_mask x _ (k := 31) (by decide) (by decide)
theorem own_max64 : (9223372036854775807 : Int64).toInt = 9223372036854775807 := by decide
theorem own_lt64 {x y : Int64} : x < y ↔ x.toInt < y.toInt := Int64.lt_iff_toInt_lt
theorem own_lt32 {x y : Int32} : x < y ↔ x.toInt < y.toInt := Int32.lt_iff_toInt_lt
theorem own_eq64 {x y : Int64} : x = y ↔ x.toInt = y.toInt := Int64.toInt_inj.symm
theorem own_eq32 {x y : Int32} : x = y ↔ x.toInt = y.toInt := Int32.toInt_inj.symm

theorem own_f1_neg {o : Int32} (h : o < 0) (i j : Int32) : own_f1 o i j = 1 := by unfold own_f1; rw [if_pos h]
theorem own_f1_pos {o : Int32} (h : 0 < o) (i j : Int32) : own_f1 o i j = 0 := by
  have h1 : ¬ o < 0 := by rw [own_lt32] at h ⊢; have z : (0 : Int32).toInt = 0 := by decide
                          omega
  have h2 : ¬ o = 0 := by rintro rfl; exact absurd h (by decide)
  unfold own_f1; rw [if_neg h1, if_neg h2]
theorem own_f1_lt {i j : Int32} (h : i < j) : own_f1 0 i j = 1 := by unfold own_f1; rw [if_neg (by decide), if_pos rfl, if_pos h]
theorem own_f1_ge {i j : Int32} (h : ¬ i < j) : own_f1 0 i j = 0 := by unfold own_f1; rw [if_neg (by decide), if_pos rfl, if_neg h]
theorem own_mm {i j : Int32} (h : ¬ i = j) : own_f2 i j < own_f3 i j := by
  unfold own_f2 own_f3
  rw [own_eq32] at h
  by_cases h1 : j < i
  · have h2 : ¬ i < j := by rw [own_lt32] at h1 ⊢; omega
    rw [if_pos h1, if_neg h2]; exact h1
  · have h2 : i < j := by rw [own_lt32] at h1 ⊢; omega
    rw [if_neg h1, if_pos h2]; exact h2
theorem own_key (v1 v2 v3 v4 v5 v6 v7 v8 : Int32) (ha : own_f1 v5 v2 v6 = own_f1 v7 v2 v6) (hs : (v5 < 0 ∧ 0 < v8) ∨ (0 < v5 ∧ v8 < 0) ∨ (v5 = 0 ∧ v8 = 0)) : own_f0_64 v1 v2 v3 v4 v5 v6 v7 v8 = 1 := by
  unfold own_f0_64
  have n1 : ¬ own_f1 (-1) v2 v6 = 0 := by rw [own_f1_neg (by decide)]; decide
  have n2 : own_f1 1 v2 v6 = 0 := own_f1_pos (by decide) _ _
  have n3 : own_f1 0 v2 v2 = 0 := own_f1_ge (own_irr32 _)
  rw [if_pos ha, if_neg n1, if_pos n2, if_pos n3]
  by_cases he : v2 = v6
  · subst he
    rw [if_pos rfl, if_pos n3, if_pos n3]
    rcases hs with ⟨h5, h8⟩ | ⟨h5, h8⟩ | ⟨h5, h8⟩
    · have h0 : ¬ v5 = 0 := by rintro rfl; exact absurd h5 (by decide)
      rw [if_neg h0, own_f1_neg h5, own_f1_pos h8, if_neg (by decide)]
    · have h0 : ¬ v5 = 0 := by rintro rfl; exact absurd h5 (by decide)
      rw [if_neg h0, own_f1_pos h5, own_f1_neg h8, if_neg (by decide)]
    · subst h5 h8
      rw [if_pos rfl, if_pos n3, if_pos n3]
  · rw [if_neg he]
    have n4 : ¬ own_f1 0 (own_f2 v2 v6) (own_f3 v2 v6) = 0 := by rw [own_f1_lt (own_mm he)]; decide
    have n5 : ¬ own_f1 0 v2 v6 = own_f1 0 v6 v2 := by
      rw [own_eq32] at he
      by_cases h1 : v2 < v6
      · have h2 : ¬ v6 < v2 := by rw [own_lt32] at h1 ⊢; omega
        rw [own_f1_lt h1, own_f1_ge h2]; decide
      · have h2 : v6 < v2 := by rw [own_lt32] at h1 ⊢; omega
        rw [own_f1_ge h1, own_f1_lt h2]; decide
    have n6 : ¬ own_f1 v5 v2 v6 = own_f1 v8 v6 v2 := by
      rcases hs with ⟨h5, h8⟩ | ⟨h5, h8⟩ | ⟨h5, h8⟩
      · rw [own_f1_neg h5, own_f1_pos h8]; decide
      · rw [own_f1_pos h5, own_f1_neg h8]; decide
      · subst h5 h8; exact n5
    rw [if_neg n5, if_neg n4, if_neg n6]
theorem own_k47 (v1 v2 v3 v4 v5 v6 v7 : Int32) (ha : own_f1 v5 v2 v6 = own_f1 v7 v2 v6) : own_f0_47 v1 v2 v3 v4 v5 v6 v7 = 1 := by
  have z : (0 : Int32).toInt = 0 := by decide
  have e : (-2147483648 : Int32).toInt = -2147483648 := by decide
  have b := own_b32 v5
  unfold own_f0_47
  by_cases hm : v5 = -2147483648
  · rw [if_pos hm]; subst hm
    exact own_key _ _ _ _ _ _ _ _ ha (Or.inl ⟨by decide, by decide⟩)
  · rw [if_neg hm]
    refine own_key _ _ _ _ _ _ _ _ ha ?_
    rw [own_eq32, e] at hm
    have hn := Jvm.Kit.i32_neg (x := v5) (by omega)
    simp only [own_lt32, own_eq32, z, hn]
    omega
theorem own_k26 (v1 v2 v3 v4 v5 v6 : Int32) : own_f0_26 v1 v2 v3 v4 v5 v6 = 1 := by
  unfold own_f0_26
  by_cases h1 : v5 < 0
  · rw [if_pos h1]; exact own_k47 _ _ _ _ _ _ _ (by rw [own_f1_neg h1, own_f1_neg (by decide)])
  · rw [if_neg h1]
    by_cases h2 : 0 < v5
    · rw [if_pos h2]; exact own_k47 _ _ _ _ _ _ _ (by rw [own_f1_pos h2, own_f1_pos (by decide)])
    · rw [if_neg h2]
      have h3 : v5 = 0 := by
        have z : (0 : Int32).toInt = 0 := by decide
        rw [own_lt32] at h1 h2; rw [own_eq32]; omega
      subst h3
      exact own_k47 _ _ _ _ _ _ _ rfl
theorem own_law (q1 q2 q3 q4 : Int32) : own_f0 q1 q2 q3 q4 = 1 := by
  unfold own_f0 own_f0_13
  simp only [own_k26, ite_self]
set_option maxRecDepth 65536 in
set_option maxHeartbeats 40000000 in
theorem comes_1 {Post : Tables → Env → Array Value → State → Outcome → State → Prop} (hpost : ∀ tb e args s v u, (limb_1_1.after args s (.returned v) u = true ∧ limb_1_2.after args s (.returned v) u = true ∧ True) → FrameEnd s (.returned v) u (Jvm.fieldLocs frame_1_writes args s ++ Jvm.arrayLocs frame_1_arrays args s ++ Jvm.staticLocs frame_1_statics s) 0 0 → Post tb e args s (.returned v) u) :
    ArmFor flags0 classFile x code maxLocals ret World_1 tables_1 room_1 Calls_1 rest_1 Pre_1 Post := by
  intro l hfl _ _ p e ha hc hk s m args below hf hA hF happ hP
  obtain ⟨hcalls, hrest, hpre⟩ := hP
  obtain ⟨-, -, -, hnamed, -, -, -, hat⟩ := (Spec.applies_iff hf).mp happ
  obtain ⟨hg, hn⟩ := and_e (Cond.before_iff.mp (show (Jvm.Cond.and given_1 narrow_1).before args s = true from hpre))
  obtain ⟨gc, g0⟩ := and_e hg
  obtain ⟨gv0, g1⟩ := and_e g0
  obtain ⟨gv1, g2⟩ := and_e g1
  obtain ⟨gv2, g3⟩ := and_e g2
  have gv3 := g3
  obtain ⟨w0, w1, w2, w3, rfl⟩ : ∃ w0 w1 w2 w3 : Value, args = #[w0, w1, w2, w3] := by
    have hs : args.size = 4 := by simpa [Cond.value, given_1] using gc
    obtain ⟨L⟩ := args
    match L, hs with
    | [w0, w1, w2, w3], _ => exact ⟨w0, w1, w2, w3, rfl⟩
  have hw := fun d (hd : d ∈ tables_1) => atoms_spec (ws := Jvm.Cond.code x code maxLocals ret :: tables_1) hat d (List.mem_cons_of_mem _ hd)
  obtain ⟨i0, ei0⟩ := is_v gv0
  obtain rfl : w0 = (.int i0) := Option.some.inj ei0
  obtain ⟨i1, ei1⟩ := is_v gv1
  obtain rfl : w1 = (.int i1) := Option.some.inj ei1
  obtain ⟨i2, ei2⟩ := is_v gv2
  obtain rfl : w2 = (.int i2) := Option.some.inj ei2
  obtain ⟨i3, ei3⟩ := is_v gv3
  obtain rfl : w3 = (.int i3) := Option.some.inj ei3
  obtain ⟨n, o, h1, h2, h3, _, L, rfl, ⟨rfl, N⟩, hq⟩ := rm0 l s _ hw tables_1 i0 i1 i2 i3 s.heap s.heap.size (Nat.le_refl _) own_law p e ha hc hk s m _ below hf ((Spec.applies_iff_loose hf).mp happ).1 ⟨rfl, State.Warmed39.refl s, rfl⟩ trivial
  refine ⟨n, _, h1, h2, h3, hpost _ _ _ _ _ _ ⟨Cond.after_iff.mpr rfl, Cond.after_iff.mpr (eq_i res_at (Term.int_eval (1)) rfl), trivial⟩ ⟨hq.1, hq.2.1, (hq.2.2.sift fun y hy => Or.inr (N y hy)).mono (by decide) (by decide)⟩⟩
theorem main_1_1 : Claimed_1_1 := comes_1 fun _ _ _ _ _ _ h hF => ⟨h.1, hF⟩
theorem main_1_2 : Claimed_1_2 := comes_1 fun _ _ _ _ _ _ h hF => ⟨h.2.1, hF⟩
end Jvm.Pilot.@@N@@
namespace Jvm.Pilot.@@N@@
open Jvm Jvm.ClassFile Sem Op Lib Jvm.Free Jvm.Stand Jvm.Pilot.@@N@@.Jvm.D
/-! MADE BY PROGRAM (witnessworld.py) out of the Statement's table words and the real class files: 10 classes; the members and pool entries that the words name. The judged class is class 1, her method 1. -/
namespace start1
open Jvm.ClassFile
def u (s : String) : CpInfo := .utf8 (stringToUtf16 s)
/-- a pool by its gaps: so many unusable entries, then the entry; so many at the end -/
def gap : Nat → List CpInfo → List CpInfo
  | 0, r => r
  | n + 1, r => .unusable :: gap n r
def poolList (es : List (Nat × CpInfo)) (last : Nat) : List CpInfo := es.foldr (fun e r => gap e.1 (e.2 :: r)) (gap last [])
def pool (es : List (Nat × CpInfo)) (last : Nat) : Array CpInfo := ⟨poolList es last⟩
def fileOf (pool : Array CpInfo) (this : Nat) (attrs : Array Attribute := #[]) (ms : Array MethodInfo := #[]) (fl : Nat := 33) (sup : Nat := 0) (ifs : Array Nat := #[]) (fds : Array FieldInfo := #[]) : ClassFile where
  minorVersion := 0
  majorVersion := 65
  constantPool := pool
  accessFlags := fl
  thisClass := this
  superClass := sup
  interfaces := ifs
  fields := fds
  methods := ms
  attributes := attrs
def plain (name : String) (sup : Option ClassId) : Class where
  name := name
  kind := .ordinary
  loader := none
  accessFlags := 33
  super := sup
  interfaces := #[]
  cf := none
  fields := #[]
  methods := #[]
  instanceTypes := #[]
  staticTypes := #[]
  resolved := #[]
  callSites := []
  init := .initialized
  statics := none
  mirror := none

def pool0 : Array CpInfo := pool [(5, u "<init>"), (0, u "()V"), (1, .class_ 10), (1, u "java/lang/Object")] 113

def k0m0 : Method := { name := "<init>", desc := "()V", sig := { parameters := [], returnType := none }, accessFlags := 1, code := none }
/-- java/lang/Object -/
def k0 : Class := { plain "java/lang/Object" none with
  accessFlags := 33
  interfaces := #[]
  cf := some (fileOf pool0 8 #[] #[{ accessFlags := 1, nameIndex := 5, descriptorIndex := 6, attributes := #[] }] 33 0 #[] #[])
  fields := #[]
  methods := #[k0m0]
  instanceTypes := #[]
  staticTypes := #[]
  resolved := Array.replicate 124 none
  statics := none }

def pool1 : Array CpInfo := pool [(2, .class_ 4), (1, u "java/lang/Object"), (0, u "<init>"), (0, u "()V"), (2, .integer 2147483648), (0, .integer 2147483647), (0, .methodref 12 13), (0, .class_ 14), (0, .nameAndType 15 16), (0, u "com/example/laima/laima/policies/Best"), (0, u "ranksBefore"), (0, u "(III)Z"), (0, .methodref 18 19), (0, .class_ 20), (0, .nameAndType 21 22), (0, u "java/lang/Math"), (0, u "min"), (0, u "(II)I"), (0, .methodref 18 24), (0, .nameAndType 25 22), (0, u "max"), (0, .class_ 27), (0, u "com/example/laima/laima/policies/BestRanksBeforePinLaw"), (2, u "law"), (0, u "(IIII)Z")] 3

def k1m0 : Method := { name := "<init>", desc := "()V", sig := { parameters := [], returnType := none }, accessFlags := 2, code := none }
def k1c1 : Code := { maxStack := 4, maxLocals := 17, code := code, exceptionTable := #[], attributes := #[] }
def k1m1 : Method := { name := "law", desc := "(IIII)Z", sig := { parameters := [.int, .int, .int, .int], returnType := some .boolean }, accessFlags := 9, code := some k1c1 }
/-- com/example/laima/laima/policies/BestRanksBeforePinLaw -/
def k1 : Class := { plain "com/example/laima/laima/policies/BestRanksBeforePinLaw" (some 0) with
  accessFlags := 49
  interfaces := #[]
  cf := some (fileOf pool1 26 #[] #[{ accessFlags := 2, nameIndex := 5, descriptorIndex := 6, attributes := #[] }, { accessFlags := 9, nameIndex := 30, descriptorIndex := 31, attributes := #[] }] 49 2 #[] #[])
  fields := #[]
  methods := #[k1m0, k1m1]
  instanceTypes := #[]
  staticTypes := #[]
  resolved := Array.replicate 35 none
  statics := none }

def pool2 : Array CpInfo := pool [(2, .class_ 4), (1, u "java/lang/Object"), (0, u "<init>"), (0, u "()V"), (6, .class_ 14), (0, u "com/example/laima/laima/policies/Best"), (43, u "ranksBefore"), (0, u "(III)Z"), (0, u "COMPARED_IN_FULL"), (0, u "I")] 11

def k2m0 : Method := { name := "<init>", desc := "()V", sig := { parameters := [], returnType := none }, accessFlags := 2, code := none }
def k2c1 : Code := { maxStack := 2, maxLocals := 3, code := prog_27_method_4_code, exceptionTable := #[], attributes := #[] }
def k2m1 : Method := { name := "ranksBefore", desc := "(III)Z", sig := { parameters := [.int, .int, .int], returnType := some .boolean }, accessFlags := 9, code := some k2c1 }
/-- com/example/laima/laima/policies/Best -/
def k2 : Class := { plain "com/example/laima/laima/policies/Best" (some 0) with
  accessFlags := 49
  interfaces := #[]
  cf := some (fileOf pool2 13 #[] #[{ accessFlags := 2, nameIndex := 5, descriptorIndex := 6, attributes := #[] }, { accessFlags := 9, nameIndex := 58, descriptorIndex := 59, attributes := #[] }] 49 2 #[] #[{ accessFlags := 25, nameIndex := 60, descriptorIndex := 61, attributes := #[] }])
  fields := #[{ name := "COMPARED_IN_FULL", type := .int, accessFlags := 25, slot := 0, constantValue := 0 }]
  methods := #[k2m0, k2m1]
  instanceTypes := #[]
  staticTypes := #[.int]
  resolved := Array.replicate 73 none
  statics := none }

def pool3 : Array CpInfo := pool [(1, .class_ 2), (0, u "java/lang/Math"), (1, .class_ 6), (1, u "java/lang/Object"), (0, u "<init>"), (0, u "()V"), (89, .class_ 100), (1, u "java/lang/Math$RandomNumberGeneratorHolder"), (71, u "negativeZeroFloatBits"), (0, u "J"), (2, u "negativeZeroDoubleBits"), (21, u "max"), (2, u "min"), (43, u "$assertionsDisabled"), (0, u "Z"), (88, u "(II)I"), (2, u "twoToTheDoubleScaleDown"), (0, u "D"), (4, u "twoToTheDoubleScaleUp"), (9, u "E"), (3, u "PI"), (2, u "TAU"), (2, u "DEGREES_TO_RADIANS"), (0, u "RADIANS_TO_DEGREES")] 94

def k3m0 : Method := { name := "<init>", desc := "()V", sig := { parameters := [], returnType := none }, accessFlags := 2, code := none }
def k3c1 : Code := { maxStack := 2, maxLocals := 2, code := jdk_29_method_65_code, exceptionTable := #[], attributes := #[] }
def k3m1 : Method := { name := "max", desc := "(II)I", sig := { parameters := [.int, .int], returnType := some .int }, accessFlags := 9, code := some k3c1 }
def k3c2 : Code := { maxStack := 2, maxLocals := 2, code := jdk_29_method_69_code, exceptionTable := #[], attributes := #[] }
def k3m2 : Method := { name := "min", desc := "(II)I", sig := { parameters := [.int, .int], returnType := some .int }, accessFlags := 9, code := some k3c2 }
/-- java/lang/Math -/
def k3 : Class := { plain "java/lang/Math" (some 0) with
  accessFlags := 49
  interfaces := #[]
  cf := some (fileOf pool3 1 #[.nestMembers #[98]] #[{ accessFlags := 2, nameIndex := 7, descriptorIndex := 8, attributes := #[] }, { accessFlags := 9, nameIndex := 198, descriptorIndex := 335, attributes := #[] }, { accessFlags := 9, nameIndex := 201, descriptorIndex := 335, attributes := #[] }] 49 4 #[] #[{ accessFlags := 25, nameIndex := 354, descriptorIndex := 339, attributes := #[] }, { accessFlags := 25, nameIndex := 358, descriptorIndex := 339, attributes := #[] }, { accessFlags := 25, nameIndex := 361, descriptorIndex := 339, attributes := #[] }, { accessFlags := 26, nameIndex := 364, descriptorIndex := 339, attributes := #[] }, { accessFlags := 26, nameIndex := 365, descriptorIndex := 339, attributes := #[] }, { accessFlags := 26, nameIndex := 172, descriptorIndex := 173, attributes := #[] }, { accessFlags := 26, nameIndex := 176, descriptorIndex := 173, attributes := #[] }, { accessFlags := 8, nameIndex := 344, descriptorIndex := 339, attributes := #[] }, { accessFlags := 8, nameIndex := 338, descriptorIndex := 339, attributes := #[] }, { accessFlags := 4120, nameIndex := 245, descriptorIndex := 246, attributes := #[] }])
  fields := #[{ name := "E", type := .double, accessFlags := 25, slot := 0, constantValue := 0 }, { name := "PI", type := .double, accessFlags := 25, slot := 1, constantValue := 0 }, { name := "TAU", type := .double, accessFlags := 25, slot := 2, constantValue := 0 }, { name := "DEGREES_TO_RADIANS", type := .double, accessFlags := 26, slot := 3, constantValue := 0 }, { name := "RADIANS_TO_DEGREES", type := .double, accessFlags := 26, slot := 4, constantValue := 0 }, { name := "negativeZeroFloatBits", type := .long, accessFlags := 26, slot := 5, constantValue := 0 }, { name := "negativeZeroDoubleBits", type := .long, accessFlags := 26, slot := 6, constantValue := 0 }, { name := "twoToTheDoubleScaleUp", type := .double, accessFlags := 8, slot := 7, constantValue := 0 }, { name := "twoToTheDoubleScaleDown", type := .double, accessFlags := 8, slot := 8, constantValue := 0 }, { name := "$assertionsDisabled", type := .boolean, accessFlags := 4120, slot := 9, constantValue := 0 }]
  methods := #[k3m0, k3m1, k3m2]
  instanceTypes := #[]
  staticTypes := #[.double, .double, .double, .double, .double, .long, .long, .double, .double, .boolean]
  resolved := Array.replicate 460 none
  statics := none }

def pool4 : Array CpInfo := pool [(1, u "java/lang/Cloneable"), (0, .class_ 1), (0, u "java/lang/Object"), (0, .class_ 3)] 3

/-- java/lang/Cloneable -/
def k4 : Class := { plain "java/lang/Cloneable" (some 0) with
  accessFlags := 1537
  interfaces := #[]
  cf := some (fileOf pool4 2 #[] #[] 1537 4 #[] #[])
  fields := #[]
  methods := #[]
  instanceTypes := #[]
  staticTypes := #[]
  resolved := Array.replicate 8 none
  statics := none }

def pool5 : Array CpInfo := pool [(1, u "java/io/Serializable"), (0, .class_ 1), (0, u "java/lang/Object"), (0, .class_ 3)] 3

/-- java/io/Serializable -/
def k5 : Class := { plain "java/io/Serializable" (some 0) with
  accessFlags := 1537
  interfaces := #[]
  cf := some (fileOf pool5 2 #[] #[] 1537 4 #[] #[])
  fields := #[]
  methods := #[]
  instanceTypes := #[]
  staticTypes := #[]
  resolved := Array.replicate 8 none
  statics := none }

/-- the primitive byte -/
def k6 : Class := { plain "byte" none with kind := .primitive 'B', accessFlags := 0x411 }
/-- [B -/
def k7 : Class := { plain "[B" (some 0) with kind := .array 6 .byte, interfaces := #[4, 5], accessFlags := 1041 }

/-- the primitive int -/
def k8 : Class := { plain "int" none with kind := .primitive 'I', accessFlags := 0x411 }
/-- [I -/
def k9 : Class := { plain "[I" (some 0) with kind := .array 8 .int, interfaces := #[4, 5], accessFlags := 1041 }

def heap : Heap := #[]
def classes : Array Class := #[k0, k1, k2, k3, k4, k5, k6, k7, k8, k9]
def interned : List (Array UInt16 × Addr) := []
def slotsUsed : Nat := 0
def theMethod : MethodId := ⟨1, 1⟩
def args0 : Array Value := #[.int 5, .int 300, .int 7, .int 1]
def aboutOver (below : List Frame) : State where
  vm := { classes := classes, interned := interned.toArray }
  heap := heap
  slotsUsed := slotsUsed
  threads := #[{ frames := .invoking theMethod args0 :: below }]
def below0 : List Frame := [.native { method := ⟨0, 0⟩, args := #[] }]
def about1 : State := aboutOver below0
def p0 : Program := .bare "" "" ""
def e0 : Env := launch0.env 0 0 0
theorem w_frames : about1.frames = Frame.invoking theMethod args0 :: below0 := rfl
set_option maxRecDepth 65536 in
theorem w_args : argsFit about1.vm theMethod args0 = true := by decide +kernel
set_option maxRecDepth 65536 in
theorem w_heap : heapFits about1 = true := by decide +kernel
set_option maxRecDepth 65536 in
theorem w_runnable : about1.curStatus? = some .runnable := by decide +kernel
set_option maxRecDepth 65536 in
theorem w_alone : about1.alone = true := by decide +kernel
set_option maxRecDepth 65536 in
theorem w_named : about1.methodNamed? x = some theMethod := by decide +kernel
set_option maxRecDepth 65536 in
theorem w_hears : about1.hears theMethod below0 = true := by decide +kernel
set_option maxRecDepth 65536 in
theorem w_ripe : about1.ripe theMethod args0 below0 = true := by decide +kernel
theorem w_running : about1.status = .running := rfl
set_option maxRecDepth 65536 in
theorem w_room : about1.hasRoom e0.platform room_1 = true :=
  launch0.hasRoom_least _ room_1 (by decide +kernel) (by decide +kernel) (by decide +kernel) (by decide +kernel) (by decide +kernel) (by decide +kernel)
theorem allAtoms_all (ts : List Jvm.Cond) (a : Array Jvm.Value) (st : Jvm.State) : (allAtoms ts).before a st = ts.all (fun c => c.before a st) := by
  induction ts with
  | nil => rfl
  | cons c t ih =>
    show (Jvm.Cond.and c (allAtoms t)).before a st = _
    rw [Jvm.Cond.before_and, ih, List.all_cons]
def words1 : List Jvm.Cond := Jvm.Cond.code x code maxLocals ret :: tables_1
/-- a 'code' word, met by the world's own term for the bytes: nothing is compared byte by byte -/
theorem code_word {y : MethodName} {bytes : ByteArray} {mx : Nat} {rt : Option FieldType} {a : Array Value} {s : State} {m : MethodId} {meth : Method} {c : Code} (h1 : s.methodNamed? y = some m) (h2 : s.vm.method? m = some meth) (h3 : meth.code = some c) (h4 : c.code = bytes)
    (h5 : (c.maxLocals == mx && c.exceptionTable.isEmpty && decide (c.maxStack ≤ mostOperands) && decide (meth.sig.returnType = rt) && !meth.locks && decide (parseMethodDescriptor y.desc = some meth.sig)) = true) : (Jvm.Cond.code y bytes mx rt).before a s = true := by
  simp only [Bool.and_eq_true, beq_iff_eq, Bool.not_eq_true', decide_eq_true_eq] at h5
  obtain ⟨⟨⟨⟨⟨g1, g2⟩, g3⟩, g4⟩, g5⟩, g6⟩ := h5
  simp [Cond.before, Cond.holds, Cond.value, h1, h2, h3, h4, g1, g2, g3, g4, g5, g6]
def isCode : Jvm.Cond → Bool
  | .code _ _ _ _ => true
  | _ => false
theorem all_split {L : List Jvm.Cond} {P : Jvm.Cond → Bool} (h1 : L.all (fun c => isCode c || P c) = true) (h2 : ∀ c ∈ L.filter isCode, P c = true) : L.all P = true := by
  refine List.all_eq_true.mpr fun c hc => ?_
  have h := List.all_eq_true.mp h1 c hc
  rcases Bool.eq_false_or_eq_true (isCode c) with hi | hi
  · exact h2 c (List.mem_filter.mpr ⟨hc, hi⟩)
  · simpa [hi] using h
set_option maxRecDepth 65536 in
theorem w_c0 : (Jvm.Cond.code x code maxLocals ret).before args0 about1 = true := code_word (m := ⟨1, 1⟩) (meth := k1m1) (c := k1c1) (by decide +kernel) rfl rfl rfl (by decide +kernel)
set_option maxRecDepth 65536 in
theorem w_c1 : (Jvm.Cond.code ({ cls := "com/example/laima/laima/policies/Best", name := "ranksBefore", desc := "(III)Z" } : Jvm.MethodName) prog_27_method_4_code (3 : Nat) (Option.some Jvm.ClassFile.FieldType.boolean)).before args0 about1 = true := code_word (m := ⟨2, 1⟩) (meth := k2m1) (c := k2c1) (by decide +kernel) rfl rfl rfl (by decide +kernel)
set_option maxRecDepth 65536 in
theorem w_c2 : (Jvm.Cond.code ({ cls := "java/lang/Math", name := "min", desc := "(II)I" } : Jvm.MethodName) jdk_29_method_69_code (2 : Nat) (Option.some Jvm.ClassFile.FieldType.int)).before args0 about1 = true := code_word (m := ⟨3, 2⟩) (meth := k3m2) (c := k3c2) (by decide +kernel) rfl rfl rfl (by decide +kernel)
set_option maxRecDepth 65536 in
theorem w_c3 : (Jvm.Cond.code ({ cls := "java/lang/Math", name := "max", desc := "(II)I" } : Jvm.MethodName) jdk_29_method_65_code (2 : Nat) (Option.some Jvm.ClassFile.FieldType.int)).before args0 about1 = true := code_word (m := ⟨3, 1⟩) (meth := k3m1) (c := k3c1) (by decide +kernel) rfl rfl rfl (by decide +kernel)
def codes1 : List Jvm.Cond := [Jvm.Cond.code x code maxLocals ret, Jvm.Cond.code ({ cls := "com/example/laima/laima/policies/Best", name := "ranksBefore", desc := "(III)Z" } : Jvm.MethodName) prog_27_method_4_code (3 : Nat) (Option.some Jvm.ClassFile.FieldType.boolean), Jvm.Cond.code ({ cls := "java/lang/Math", name := "min", desc := "(II)I" } : Jvm.MethodName) jdk_29_method_69_code (2 : Nat) (Option.some Jvm.ClassFile.FieldType.int), Jvm.Cond.code ({ cls := "java/lang/Math", name := "max", desc := "(II)I" } : Jvm.MethodName) jdk_29_method_65_code (2 : Nat) (Option.some Jvm.ClassFile.FieldType.int)]
set_option maxRecDepth 65536 in
theorem codes_eq : words1.filter isCode = codes1 := rfl
theorem w_codes : ∀ c ∈ words1.filter isCode, c.before args0 about1 = true := by
  rw [codes_eq]
  intro c hc
  simp only [codes1, List.mem_cons, List.not_mem_nil, or_false] at hc
  rcases hc with rfl | rfl | rfl | rfl
  · exact w_c0
  · exact w_c1
  · exact w_c2
  · exact w_c3
set_option maxRecDepth 65536 in
theorem w_t1 : words1.all (fun c => isCode c || c.before args0 about1) = true := by decide +kernel
theorem w_tables : (allAtoms (Jvm.Cond.code x code maxLocals ret :: tables_1)).before args0 about1 = true := by
  rw [allAtoms_all]
  show words1.all (fun c => c.before args0 about1) = true
  refine all_split ?_ w_codes
  rw [w_t1]
set_option maxRecDepth 65536 in
theorem w_case : (Jvm.Cond.and given_1 narrow_1).before args0 about1 = true := by decide +kernel
theorem w_applies : (headSpec (Jvm.Cond.code x code maxLocals ret :: tables_1) room_1).applies x e0.platform about1 = true :=
  (Spec.applies_iff w_frames).mpr ⟨w_running, w_runnable, w_alone, w_named, w_hears, w_ripe, w_room, w_tables⟩
theorem atStart : AtStart classFile x code maxLocals ret World_1 tables_1 room_1 Calls_1 rest_1 Pre_1 launch0 p0 e0 about1 theMethod args0 below0 :=
  ⟨lists_1, trivial, launch0.admits_env _ _ _, launch0.least_env, fairChoices_fair.cas, fairChoices_fair.clock, w_frames, w_args, w_heap, w_applies, trivial, trivial, w_case⟩
end start1
theorem witness_1 : WitnessClaimed_1 := ⟨start1.p0, start1.e0, start1.about1, start1.theMethod, start1.args0, start1.below0, start1.atStart⟩
end Jvm.Pilot.@@N@@
