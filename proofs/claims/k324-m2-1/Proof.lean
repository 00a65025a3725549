import JvmDerived
import JvmDerived.Pilot.@@N@@Statement
import JvmDerived.Pilot.@@N@@Code
set_option linter.unusedVariables false
set_option linter.unusedSimpArgs false
@@BLOCK:NumsL.lean.txt@@
namespace Jvm.RoadKit
open Sem ClassFile Op Lib Jvm.Stand Jvm.Free Jvm.LawKit
section New
variable {p : Program} {l : Launch} {e : Env} {R : Room} {s : State} {m : MethodId} {args : Array Value} {below : List Frame} {meth : Method} {c : Code} {T : State} {locs : List Loc} {cells slots : Nat}
theorem retI (X : Stand p l e R s m args below meth c T locs cells slots) (hx : p.tables.exec = Jvm.exec) {pc : Nat} {Ls : Array Slot} {z : Int32} {rest : List Value} (hret : meth.sig.returnType = some .int) (hd : decode c.code pc = .ok (.ireturn, 1)) {fs : List Frame}
    (hl : ∀ (f : JFrame) (acts : List Action), f.method = m → f.locked = none → f.entered = [] → (doReturn e (T.setTop f) acts (some (.int z))).1 = T.setFrames fs) : Steps p.tables e below (T.setTop (mkF m pc Ls (.int z :: rest))) (T.setFrames fs) := by
  have hm' : T.vm.method? m = some meth := X.method'
  have hn : narrow .int (.int z) = .int z := rfl
  show Steps p.tables e below (T.setTop { method := m, pc := pc, locals := Ls, stack := _ :: rest, locked := none }) _
  jvm_step X.here [X.here.top, hx, hd, hm', hret, hn]
  first | (intro acts; rw [hl _ acts rfl rfl rfl]) | rw [hl _ _ rfl rfl rfl]
  exact Steps.refl _
end New
end Jvm.RoadKit
namespace Jvm.Pilot.@@N@@
open Jvm Jvm.ClassFile Sem Op Lib Jvm.Free Jvm.Stand Jvm.LawKit Jvm.RoadKit Bundle Jvm.Pilot.@@N@@.Jvm.D
/-- the run from this frame comes to an end that R takes -/
def own_Fin (tb : Tables) (e : Env) (below : List Frame) (R : State → Prop) (T : State) (g : JFrame) : Prop := ∃ t, Steps tb e below (T.setTop g) t ∧ R t
theorem own_st {tb : Tables} {e : Env} {below : List Frame} {R : State → Prop} {T T' : State} {g g' : JFrame} (h : own_Fin tb e below R T' g') (k : ∀ t, Steps tb e below (T'.setTop g') t → Steps tb e below (T.setTop g) t) : own_Fin tb e below R T g := by
  obtain ⟨t, a, b⟩ := h
  exact ⟨t, k t a, b⟩
def own_End (below : List Frame) (s : State) (Q : Option Value → Heap → List Loc → Prop) (cells slots : Nat) (t : State) : Prop := t.status = .running ∧ ∃ o, Ended t below o ∧ ∃ v L, o = .returned v ∧ Q v t.heap L ∧ FrameEnd s o t L cells slots
/-- a body that writes nothing -/
def own_P (h0 : Heap) (n0 : Nat) (w : Option Value) (v : Option Value) (h : Heap) (L : List Loc) : Prop := v = w ∧ Fr n0 L ∧ h = h0
theorem own_cast {tb : Tables} {e : Env} {below : List Frame} {R R' : State → Prop} {T : State} {g : JFrame} (q : R' = R) (h : own_Fin tb e below R' T g) : own_Fin tb e below R T g := q ▸ h
/-- the law: what it returns, and nothing old is written -/
def own_L (n0 : Nat) (w : Value) (v : Option Value) (h : Heap) (L : List Loc) : Prop := v = some w ∧ Fr n0 L
theorem own_lcW (a b : Int64) : lcmpW a b = if a > b then 1 else if a = b then 0 else -1 := rfl
theorem own_lc_lt {a b : Int64} : lcmpW a b < 0 ↔ a < b := by
  rw [own_lcW]
  by_cases h1 : a > b
  · rw [if_pos h1]
    exact ⟨fun h => absurd h (by decide), fun h => absurd (Int64.lt_trans h h1) Int64.lt_irrefl⟩
  · rw [if_neg h1]
    by_cases h2 : a = b
    · rw [if_pos h2]
      exact ⟨fun h => absurd h (by decide), fun h => absurd (h2 ▸ h) Int64.lt_irrefl⟩
    · rw [if_neg h2]
      refine ⟨fun _ => ?_, fun _ => by decide⟩
      rw [Int64.lt_iff_toInt_lt] at *
      have h3 : a.toInt ≠ b.toInt := fun q => h2 (Int64.toInt_inj.mp q)
      have h4 : ¬ b.toInt < a.toInt := fun q => h1 (Int64.lt_iff_toInt_lt.mpr q)
      omega
theorem own_lc_gt {a b : Int64} : 0 < lcmpW a b ↔ b < a := by
  rw [own_lcW]
  by_cases h1 : a > b
  · rw [if_pos h1]; exact ⟨fun _ => h1, fun _ => by decide⟩
  · rw [if_neg h1]
    by_cases h2 : a = b
    · rw [if_pos h2]; exact ⟨fun h => absurd h (by decide), fun h => absurd h h1⟩
    · rw [if_neg h2]; exact ⟨fun h => absurd h (by decide), fun h => absurd h h1⟩
theorem own_lc_eq {a b : Int64} : lcmpW a b = 0 ↔ a = b := by
  rw [own_lcW]
  by_cases h1 : a > b
  · rw [if_pos h1]; exact ⟨fun h => absurd h (by decide), fun h => absurd (h ▸ h1 : a > a) Int64.lt_irrefl⟩
  · rw [if_neg h1]
    by_cases h2 : a = b
    · rw [if_pos h2]; exact ⟨fun _ => h2, fun _ => rfl⟩
    · rw [if_neg h2]; exact ⟨fun h => absurd h (by decide), fun h => absurd h h2⟩
def own_EndW (below : List Frame) (s : State) (Q : Option Value → Heap → List Loc → Prop) (cells slots : Nat) (t : State) : Prop := t.status = .running ∧ ∃ o, Ended t below o ∧ ∃ v L, o = .returned v ∧ Q v t.heap L ∧ ReturnedEndW s o t L cells slots
theorem own_fr {tb : Tables} {e : Env} {below : List Frame} {R : State → Prop} {T : State} {g g' : JFrame} (q : g' = g) (h : own_Fin tb e below R T g') : own_Fin tb e below R T g := q ▸ h
theorem own_irr32 (x : Int32) : ¬ x < x := Int32.lt_irrefl
theorem own_irr64 (x : Int64) : ¬ x < x := Int64.lt_irrefl
def own_ush32 (x y : Int32) : Int32 := (x.toUInt32 >>> (y &&& 31).toUInt32).toInt32
def own_ush64 (x : Int64) (y : Int32) : Int64 := (x.toUInt64 >>> (y &&& 0x3f).toInt64.toUInt64).toInt64
section OwnStep
variable {p : Program} {l : Launch} {e : Env} {R : Room} {s : State} {m : MethodId} {args : Array Value} {below : List Frame} {meth : Method} {c : Code} {T : State} {locs : List Loc} {kc ks : Nat} {Rr : State → Prop} {Ls Ls' : Array Slot} {st : List Value} {pc pc' : Nat} {Z : State} {a0 : Array Value} {h : Heap}
theorem own_iload (X : Stand p l e R s m args below meth c T locs kc ks) (hx : p.tables.exec = Jvm.exec) {j : Nat} {v : Int32} (hd : decode c.code pc = .ok (.iload j, 2)) (hp : pc + 2 = pc') (hl : Ls[j]? = some (.val (.int v))) (h : own_Fin p.tables e below Rr T (mkF m pc' Ls (.int v :: st))) : own_Fin p.tables e below Rr T (mkF m pc Ls st) := by
  subst hp; exact own_st h (fun t k => XS.iload X.here hx rfl hd hl k)
theorem own_iloadN (X : Stand p l e R s m args below meth c T locs kc ks) (hx : p.tables.exec = Jvm.exec) {j : Fin 4} {v : Int32} (hd : decode c.code pc = .ok (.iload_n j, 1)) (hp : pc + 1 = pc') (hl : Ls[j.val]? = some (.val (.int v))) (h : own_Fin p.tables e below Rr T (mkF m pc' Ls (.int v :: st))) : own_Fin p.tables e below Rr T (mkF m pc Ls st) := by
  subst hp; exact own_st h (fun t k => XS.iloadN X.here hx rfl hd hl k)
theorem own_istore (X : Stand p l e R s m args below meth c T locs kc ks) (hx : p.tables.exec = Jvm.exec) {j : Nat} {v : Int32} (hd : decode c.code pc = .ok (.istore j, 2)) (hp : pc + 2 = pc') (hl : storeLocals Ls j (.int v) = some Ls') (h : own_Fin p.tables e below Rr T (mkF m pc' Ls' st)) : own_Fin p.tables e below Rr T (mkF m pc Ls (.int v :: st)) := by
  subst hp; exact own_st h (fun t k => XS.istore X.here hx rfl hd rfl hl k)
theorem own_istoreN (X : Stand p l e R s m args below meth c T locs kc ks) (hx : p.tables.exec = Jvm.exec) {j : Fin 4} {v : Int32} (hd : decode c.code pc = .ok (.istore_n j, 1)) (hp : pc + 1 = pc') (hl : storeLocals Ls j.val (.int v) = some Ls') (h : own_Fin p.tables e below Rr T (mkF m pc' Ls' st)) : own_Fin p.tables e below Rr T (mkF m pc Ls (.int v :: st)) := by
  subst hp; exact own_st h (fun t k => XS.istoreN X.here hx rfl hd rfl hl k)
theorem own_lload (X : Stand p l e R s m args below meth c T locs kc ks) (hx : p.tables.exec = Jvm.exec) {j : Nat} {v : Int64} (hd : decode c.code pc = .ok (.lload j, 2)) (hp : pc + 2 = pc') (hl : Ls[j]? = some (.val (.long v))) (h : own_Fin p.tables e below Rr T (mkF m pc' Ls (.long v :: st))) : own_Fin p.tables e below Rr T (mkF m pc Ls st) := by
  subst hp; exact own_st h (fun t k => XS.lload X.here hx rfl hd hl k)
theorem own_lloadN (X : Stand p l e R s m args below meth c T locs kc ks) (hx : p.tables.exec = Jvm.exec) {j : Fin 4} {v : Int64} (hd : decode c.code pc = .ok (.lload_n j, 1)) (hp : pc + 1 = pc') (hl : Ls[j.val]? = some (.val (.long v))) (h : own_Fin p.tables e below Rr T (mkF m pc' Ls (.long v :: st))) : own_Fin p.tables e below Rr T (mkF m pc Ls st) := by
  subst hp; exact own_st h (fun t k => XS.lloadN X.here hx rfl hd hl k)
theorem own_lstore (X : Stand p l e R s m args below meth c T locs kc ks) (hx : p.tables.exec = Jvm.exec) {j : Nat} {v : Int64} (hd : decode c.code pc = .ok (.lstore j, 2)) (hp : pc + 2 = pc') (hl : storeLocals Ls j (.long v) = some Ls') (h : own_Fin p.tables e below Rr T (mkF m pc' Ls' st)) : own_Fin p.tables e below Rr T (mkF m pc Ls (.long v :: st)) := by
  subst hp; exact own_st h (fun t k => XS.lstore X.here hx rfl hd rfl hl k)
theorem own_lstoreN (X : Stand p l e R s m args below meth c T locs kc ks) (hx : p.tables.exec = Jvm.exec) {j : Fin 4} {v : Int64} (hd : decode c.code pc = .ok (.lstore_n j, 1)) (hp : pc + 1 = pc') (hl : storeLocals Ls j.val (.long v) = some Ls') (h : own_Fin p.tables e below Rr T (mkF m pc' Ls' st)) : own_Fin p.tables e below Rr T (mkF m pc Ls (.long v :: st)) := by
  subst hp; exact own_st h (fun t k => XS.lstoreN X.here hx rfl hd rfl hl k)
theorem own_aload (X : Stand p l e R s m args below meth c T locs kc ks) (hx : p.tables.exec = Jvm.exec) {j : Nat} {v : Value} (hd : decode c.code pc = .ok (.aload j, 2)) (hp : pc + 2 = pc') (hl : Ls[j]? = some (.val v)) (hv : v.isRef = true) (h : own_Fin p.tables e below Rr T (mkF m pc' Ls (v :: st))) : own_Fin p.tables e below Rr T (mkF m pc Ls st) := by
  subst hp; exact own_st h (fun t k => XS.aload X.here hx rfl hd hl hv k)
theorem own_aloadN (X : Stand p l e R s m args below meth c T locs kc ks) (hx : p.tables.exec = Jvm.exec) {j : Fin 4} {v : Value} (hd : decode c.code pc = .ok (.aload_n j, 1)) (hp : pc + 1 = pc') (hl : Ls[j.val]? = some (.val v)) (hv : v.isRef = true) (h : own_Fin p.tables e below Rr T (mkF m pc' Ls (v :: st))) : own_Fin p.tables e below Rr T (mkF m pc Ls st) := by
  subst hp; exact own_st h (fun t k => XS.aloadN X.here hx rfl hd hl hv k)
theorem own_astore (X : Stand p l e R s m args below meth c T locs kc ks) (hx : p.tables.exec = Jvm.exec) {j : Nat} {v : Value} (hd : decode c.code pc = .ok (.astore j, 2)) (hp : pc + 2 = pc') (hv : v.isRef = true) (hl : storeLocals Ls j v = some Ls') (h : own_Fin p.tables e below Rr T (mkF m pc' Ls' st)) : own_Fin p.tables e below Rr T (mkF m pc Ls (v :: st)) := by
  subst hp; exact own_st h (fun t k => XS.astore X.here hx rfl hd rfl hv hl k)
theorem own_astoreN (X : Stand p l e R s m args below meth c T locs kc ks) (hx : p.tables.exec = Jvm.exec) {j : Fin 4} {v : Value} (hd : decode c.code pc = .ok (.astore_n j, 1)) (hp : pc + 1 = pc') (hv : v.isRef = true) (hl : storeLocals Ls j.val v = some Ls') (h : own_Fin p.tables e below Rr T (mkF m pc' Ls' st)) : own_Fin p.tables e below Rr T (mkF m pc Ls (v :: st)) := by
  subst hp; exact own_st h (fun t k => XS.astoreN X.here hx rfl hd rfl hv hl k)
theorem own_iconst (X : Stand p l e R s m args below meth c T locs kc ks) (hx : p.tables.exec = Jvm.exec) {i : Int} {v : Int32} (hd : decode c.code pc = .ok (.iconst i, 1)) (hp : pc + 1 = pc') (hv : Int32.ofInt i = v) (h : own_Fin p.tables e below Rr T (mkF m pc' Ls (.int v :: st))) : own_Fin p.tables e below Rr T (mkF m pc Ls st) := by
  subst hp; exact own_st h (fun t k => XS.iconst X.here hx rfl hd (hv ▸ k))
theorem own_bipush (X : Stand p l e R s m args below meth c T locs kc ks) (hx : p.tables.exec = Jvm.exec) {i : Int} {v : Int32} (hd : decode c.code pc = .ok (.bipush i, 2)) (hp : pc + 2 = pc') (hv : (Int8.ofInt i).toInt32 = v) (h : own_Fin p.tables e below Rr T (mkF m pc' Ls (.int v :: st))) : own_Fin p.tables e below Rr T (mkF m pc Ls st) := by
  subst hp; exact own_st h (fun t k => XS.bipush X.here hx rfl hd (hv ▸ k))
theorem own_sipush (X : Stand p l e R s m args below meth c T locs kc ks) (hx : p.tables.exec = Jvm.exec) {i : Int} {v : Int32} (hd : decode c.code pc = .ok (.sipush i, 3)) (hp : pc + 3 = pc') (hv : (Int16.ofInt i).toInt32 = v) (h : own_Fin p.tables e below Rr T (mkF m pc' Ls (.int v :: st))) : own_Fin p.tables e below Rr T (mkF m pc Ls st) := by
  subst hp; exact own_st h (fun t k => XS.sipush X.here hx rfl hd (hv ▸ k))
theorem own_lconst (X : Stand p l e R s m args below meth c T locs kc ks) (hx : p.tables.exec = Jvm.exec) {i : Fin 2} {v : Int64} (hd : decode c.code pc = .ok (.lconst i, 1)) (hp : pc + 1 = pc') (hv : Int64.ofNat i = v) (h : own_Fin p.tables e below Rr T (mkF m pc' Ls (.long v :: st))) : own_Fin p.tables e below Rr T (mkF m pc Ls st) := by
  subst hp; exact own_st h (fun t k => XS.lconst X.here hx rfl hd (hv ▸ k))
theorem own_aconstNull (X : Stand p l e R s m args below meth c T locs kc ks) (hx : p.tables.exec = Jvm.exec)  (hd : decode c.code pc = .ok (.aconst_null, 1)) (hp : pc + 1 = pc')  (h : own_Fin p.tables e below Rr T (mkF m pc' Ls (.null :: st))) : own_Fin p.tables e below Rr T (mkF m pc Ls st) := by
  subst hp; exact own_st h (fun t k => XS.aconstNull X.here hx rfl hd k)
theorem own_iadd (X : Stand p l e R s m args below meth c T locs kc ks) (hx : p.tables.exec = Jvm.exec) {x y : Int32} (hd : decode c.code pc = .ok (.iadd, 1)) (hp : pc + 1 = pc')  (h : own_Fin p.tables e below Rr T (mkF m pc' Ls (.int (x + y) :: st))) : own_Fin p.tables e below Rr T (mkF m pc Ls (.int y :: .int x :: st)) := by
  subst hp; exact own_st h (fun t k => XS.iadd X.here hx rfl hd rfl k)
theorem own_ladd (X : Stand p l e R s m args below meth c T locs kc ks) (hx : p.tables.exec = Jvm.exec) {x y : Int64} (hd : decode c.code pc = .ok (.ladd, 1)) (hp : pc + 1 = pc')  (h : own_Fin p.tables e below Rr T (mkF m pc' Ls (.long (x + y) :: st))) : own_Fin p.tables e below Rr T (mkF m pc Ls (.long y :: .long x :: st)) := by
  subst hp; exact own_st h (fun t k => XS.ladd X.here hx rfl hd rfl k)
theorem own_isub (X : Stand p l e R s m args below meth c T locs kc ks) (hx : p.tables.exec = Jvm.exec) {x y : Int32} (hd : decode c.code pc = .ok (.isub, 1)) (hp : pc + 1 = pc')  (h : own_Fin p.tables e below Rr T (mkF m pc' Ls (.int (x - y) :: st))) : own_Fin p.tables e below Rr T (mkF m pc Ls (.int y :: .int x :: st)) := by
  subst hp; exact own_st h (fun t k => XS.isub X.here hx rfl hd rfl k)
theorem own_lsub (X : Stand p l e R s m args below meth c T locs kc ks) (hx : p.tables.exec = Jvm.exec) {x y : Int64} (hd : decode c.code pc = .ok (.lsub, 1)) (hp : pc + 1 = pc')  (h : own_Fin p.tables e below Rr T (mkF m pc' Ls (.long (x - y) :: st))) : own_Fin p.tables e below Rr T (mkF m pc Ls (.long y :: .long x :: st)) := by
  subst hp; exact own_st h (fun t k => XS.lsub X.here hx rfl hd rfl k)
theorem own_imul (X : Stand p l e R s m args below meth c T locs kc ks) (hx : p.tables.exec = Jvm.exec) {x y : Int32} (hd : decode c.code pc = .ok (.imul, 1)) (hp : pc + 1 = pc')  (h : own_Fin p.tables e below Rr T (mkF m pc' Ls (.int (x * y) :: st))) : own_Fin p.tables e below Rr T (mkF m pc Ls (.int y :: .int x :: st)) := by
  subst hp; exact own_st h (fun t k => XS.imul X.here hx rfl hd rfl k)
theorem own_lmul (X : Stand p l e R s m args below meth c T locs kc ks) (hx : p.tables.exec = Jvm.exec) {x y : Int64} (hd : decode c.code pc = .ok (.lmul, 1)) (hp : pc + 1 = pc')  (h : own_Fin p.tables e below Rr T (mkF m pc' Ls (.long (x * y) :: st))) : own_Fin p.tables e below Rr T (mkF m pc Ls (.long y :: .long x :: st)) := by
  subst hp; exact own_st h (fun t k => XS.lmul X.here hx rfl hd rfl k)
theorem own_iand (X : Stand p l e R s m args below meth c T locs kc ks) (hx : p.tables.exec = Jvm.exec) {x y : Int32} (hd : decode c.code pc = .ok (.iand, 1)) (hp : pc + 1 = pc')  (h : own_Fin p.tables e below Rr T (mkF m pc' Ls (.int (x &&& y) :: st))) : own_Fin p.tables e below Rr T (mkF m pc Ls (.int y :: .int x :: st)) := by
  subst hp; exact own_st h (fun t k => XS.iand X.here hx rfl hd rfl k)
theorem own_land (X : Stand p l e R s m args below meth c T locs kc ks) (hx : p.tables.exec = Jvm.exec) {x y : Int64} (hd : decode c.code pc = .ok (.land, 1)) (hp : pc + 1 = pc')  (h : own_Fin p.tables e below Rr T (mkF m pc' Ls (.long (x &&& y) :: st))) : own_Fin p.tables e below Rr T (mkF m pc Ls (.long y :: .long x :: st)) := by
  subst hp; exact own_st h (fun t k => XS.land X.here hx rfl hd rfl k)
theorem own_ior (X : Stand p l e R s m args below meth c T locs kc ks) (hx : p.tables.exec = Jvm.exec) {x y : Int32} (hd : decode c.code pc = .ok (.ior, 1)) (hp : pc + 1 = pc')  (h : own_Fin p.tables e below Rr T (mkF m pc' Ls (.int (x ||| y) :: st))) : own_Fin p.tables e below Rr T (mkF m pc Ls (.int y :: .int x :: st)) := by
  subst hp; exact own_st h (fun t k => XS.ior X.here hx rfl hd rfl k)
theorem own_lor (X : Stand p l e R s m args below meth c T locs kc ks) (hx : p.tables.exec = Jvm.exec) {x y : Int64} (hd : decode c.code pc = .ok (.lor, 1)) (hp : pc + 1 = pc')  (h : own_Fin p.tables e below Rr T (mkF m pc' Ls (.long (x ||| y) :: st))) : own_Fin p.tables e below Rr T (mkF m pc Ls (.long y :: .long x :: st)) := by
  subst hp; exact own_st h (fun t k => XS.lor X.here hx rfl hd rfl k)
theorem own_ixor (X : Stand p l e R s m args below meth c T locs kc ks) (hx : p.tables.exec = Jvm.exec) {x y : Int32} (hd : decode c.code pc = .ok (.ixor, 1)) (hp : pc + 1 = pc')  (h : own_Fin p.tables e below Rr T (mkF m pc' Ls (.int (x ^^^ y) :: st))) : own_Fin p.tables e below Rr T (mkF m pc Ls (.int y :: .int x :: st)) := by
  subst hp; exact own_st h (fun t k => XS.ixor X.here hx rfl hd rfl k)
theorem own_lxor (X : Stand p l e R s m args below meth c T locs kc ks) (hx : p.tables.exec = Jvm.exec) {x y : Int64} (hd : decode c.code pc = .ok (.lxor, 1)) (hp : pc + 1 = pc')  (h : own_Fin p.tables e below Rr T (mkF m pc' Ls (.long (x ^^^ y) :: st))) : own_Fin p.tables e below Rr T (mkF m pc Ls (.long y :: .long x :: st)) := by
  subst hp; exact own_st h (fun t k => XS.lxor X.here hx rfl hd rfl k)
theorem own_idiv (X : Stand p l e R s m args below meth c T locs kc ks) (hx : p.tables.exec = Jvm.exec) {x y : Int32} (hd : decode c.code pc = .ok (.idiv, 1)) (hp : pc + 1 = pc') (hy : y ≠ 0) (h : own_Fin p.tables e below Rr T (mkF m pc' Ls (.int (x / y) :: st))) : own_Fin p.tables e below Rr T (mkF m pc Ls (.int y :: .int x :: st)) := by
  subst hp; exact own_st h (fun t k => XS.idiv X.here hx rfl hd rfl hy k)
theorem own_ldiv (X : Stand p l e R s m args below meth c T locs kc ks) (hx : p.tables.exec = Jvm.exec) {x y : Int64} (hd : decode c.code pc = .ok (.ldiv, 1)) (hp : pc + 1 = pc') (hy : y ≠ 0) (h : own_Fin p.tables e below Rr T (mkF m pc' Ls (.long (x / y) :: st))) : own_Fin p.tables e below Rr T (mkF m pc Ls (.long y :: .long x :: st)) := by
  subst hp; exact own_st h (fun t k => XS.ldiv X.here hx rfl hd rfl hy k)
theorem own_irem (X : Stand p l e R s m args below meth c T locs kc ks) (hx : p.tables.exec = Jvm.exec) {x y : Int32} (hd : decode c.code pc = .ok (.irem, 1)) (hp : pc + 1 = pc') (hy : y ≠ 0) (h : own_Fin p.tables e below Rr T (mkF m pc' Ls (.int (x - (x / y) * y) :: st))) : own_Fin p.tables e below Rr T (mkF m pc Ls (.int y :: .int x :: st)) := by
  subst hp; exact own_st h (fun t k => XS.irem X.here hx rfl hd rfl hy k)
theorem own_lrem (X : Stand p l e R s m args below meth c T locs kc ks) (hx : p.tables.exec = Jvm.exec) {x y : Int64} (hd : decode c.code pc = .ok (.lrem, 1)) (hp : pc + 1 = pc') (hy : y ≠ 0) (h : own_Fin p.tables e below Rr T (mkF m pc' Ls (.long (x - (x / y) * y) :: st))) : own_Fin p.tables e below Rr T (mkF m pc Ls (.long y :: .long x :: st)) := by
  subst hp; exact own_st h (fun t k => XS.lrem X.here hx rfl hd rfl hy k)
theorem own_ishl (X : Stand p l e R s m args below meth c T locs kc ks) (hx : p.tables.exec = Jvm.exec) {x y : Int32} (hd : decode c.code pc = .ok (.ishl, 1)) (hp : pc + 1 = pc')  (h : own_Fin p.tables e below Rr T (mkF m pc' Ls (.int (x <<< (y &&& 31)) :: st))) : own_Fin p.tables e below Rr T (mkF m pc Ls (.int y :: .int x :: st)) := by
  subst hp; exact own_st h (fun t k => XS.ishl X.here hx rfl hd rfl k)
theorem own_ishr (X : Stand p l e R s m args below meth c T locs kc ks) (hx : p.tables.exec = Jvm.exec) {x y : Int32} (hd : decode c.code pc = .ok (.ishr, 1)) (hp : pc + 1 = pc')  (h : own_Fin p.tables e below Rr T (mkF m pc' Ls (.int (x >>> (y &&& 31)) :: st))) : own_Fin p.tables e below Rr T (mkF m pc Ls (.int y :: .int x :: st)) := by
  subst hp; exact own_st h (fun t k => XS.ishr X.here hx rfl hd rfl k)
theorem own_iushr (X : Stand p l e R s m args below meth c T locs kc ks) (hx : p.tables.exec = Jvm.exec) {x y : Int32} (hd : decode c.code pc = .ok (.iushr, 1)) (hp : pc + 1 = pc')  (h : own_Fin p.tables e below Rr T (mkF m pc' Ls (.int (own_ush32 x y) :: st))) : own_Fin p.tables e below Rr T (mkF m pc Ls (.int y :: .int x :: st)) := by
  subst hp; exact own_st h (fun t k => XS.iushr X.here hx rfl hd rfl k)
theorem own_lshl (X : Stand p l e R s m args below meth c T locs kc ks) (hx : p.tables.exec = Jvm.exec) {x : Int64} {y : Int32} (hd : decode c.code pc = .ok (.lshl, 1)) (hp : pc + 1 = pc')  (h : own_Fin p.tables e below Rr T (mkF m pc' Ls (.long (x <<< (y &&& 63).toInt64) :: st))) : own_Fin p.tables e below Rr T (mkF m pc Ls (.int y :: .long x :: st)) := by
  subst hp; exact own_st h (fun t k => XS.lshl X.here hx rfl hd rfl k)
theorem own_lshr (X : Stand p l e R s m args below meth c T locs kc ks) (hx : p.tables.exec = Jvm.exec) {x : Int64} {y : Int32} (hd : decode c.code pc = .ok (.lshr, 1)) (hp : pc + 1 = pc')  (h : own_Fin p.tables e below Rr T (mkF m pc' Ls (.long (x >>> (y &&& 63).toInt64) :: st))) : own_Fin p.tables e below Rr T (mkF m pc Ls (.int y :: .long x :: st)) := by
  subst hp; exact own_st h (fun t k => XS.lshr X.here hx rfl hd rfl k)
theorem own_lushr (X : Stand p l e R s m args below meth c T locs kc ks) (hx : p.tables.exec = Jvm.exec) {x : Int64} {y : Int32} (hd : decode c.code pc = .ok (.lushr, 1)) (hp : pc + 1 = pc')  (h : own_Fin p.tables e below Rr T (mkF m pc' Ls (.long (own_ush64 x y) :: st))) : own_Fin p.tables e below Rr T (mkF m pc Ls (.int y :: .long x :: st)) := by
  subst hp; exact own_st h (fun t k => XS.lushr X.here hx rfl hd rfl k)
theorem own_ineg (X : Stand p l e R s m args below meth c T locs kc ks) (hx : p.tables.exec = Jvm.exec) {x : Int32} (hd : decode c.code pc = .ok (.ineg, 1)) (hp : pc + 1 = pc')  (h : own_Fin p.tables e below Rr T (mkF m pc' Ls (.int (-x) :: st))) : own_Fin p.tables e below Rr T (mkF m pc Ls (.int x :: st)) := by
  subst hp; exact own_st h (fun t k => XS.ineg X.here hx rfl hd rfl k)
theorem own_lneg (X : Stand p l e R s m args below meth c T locs kc ks) (hx : p.tables.exec = Jvm.exec) {x : Int64} (hd : decode c.code pc = .ok (.lneg, 1)) (hp : pc + 1 = pc')  (h : own_Fin p.tables e below Rr T (mkF m pc' Ls (.long (-x) :: st))) : own_Fin p.tables e below Rr T (mkF m pc Ls (.long x :: st)) := by
  subst hp; exact own_st h (fun t k => XS.lneg X.here hx rfl hd rfl k)
theorem own_i2l (X : Stand p l e R s m args below meth c T locs kc ks) (hx : p.tables.exec = Jvm.exec) {x : Int32} (hd : decode c.code pc = .ok (.i2l, 1)) (hp : pc + 1 = pc')  (h : own_Fin p.tables e below Rr T (mkF m pc' Ls (.long (x.toInt64) :: st))) : own_Fin p.tables e below Rr T (mkF m pc Ls (.int x :: st)) := by
  subst hp; exact own_st h (fun t k => XS.i2l X.here hx rfl hd rfl k)
theorem own_l2i (X : Stand p l e R s m args below meth c T locs kc ks) (hx : p.tables.exec = Jvm.exec) {x : Int64} (hd : decode c.code pc = .ok (.l2i, 1)) (hp : pc + 1 = pc')  (h : own_Fin p.tables e below Rr T (mkF m pc' Ls (.int (x.toInt32) :: st))) : own_Fin p.tables e below Rr T (mkF m pc Ls (.long x :: st)) := by
  subst hp; exact own_st h (fun t k => XS.l2i X.here hx rfl hd rfl k)
theorem own_i2b (X : Stand p l e R s m args below meth c T locs kc ks) (hx : p.tables.exec = Jvm.exec) {x : Int32} (hd : decode c.code pc = .ok (.i2b, 1)) (hp : pc + 1 = pc')  (h : own_Fin p.tables e below Rr T (mkF m pc' Ls (.int (x.toInt8.toInt32) :: st))) : own_Fin p.tables e below Rr T (mkF m pc Ls (.int x :: st)) := by
  subst hp; exact own_st h (fun t k => XS.i2b X.here hx rfl hd rfl k)
theorem own_i2s (X : Stand p l e R s m args below meth c T locs kc ks) (hx : p.tables.exec = Jvm.exec) {x : Int32} (hd : decode c.code pc = .ok (.i2s, 1)) (hp : pc + 1 = pc')  (h : own_Fin p.tables e below Rr T (mkF m pc' Ls (.int (x.toInt16.toInt32) :: st))) : own_Fin p.tables e below Rr T (mkF m pc Ls (.int x :: st)) := by
  subst hp; exact own_st h (fun t k => XS.i2s X.here hx rfl hd rfl k)
theorem own_lcmp (X : Stand p l e R s m args below meth c T locs kc ks) (hx : p.tables.exec = Jvm.exec) {x y : Int64} (hd : decode c.code pc = .ok (.lcmp, 1)) (hp : pc + 1 = pc')  (h : own_Fin p.tables e below Rr T (mkF m pc' Ls (.int (lcmpW x y) :: st))) : own_Fin p.tables e below Rr T (mkF m pc Ls (.long y :: .long x :: st)) := by
  subst hp; exact own_st h (fun t k => XS.lcmp X.here hx rfl hd rfl k)
theorem own_iinc (X : Stand p l e R s m args below meth c T locs kc ks) (hx : p.tables.exec = Jvm.exec) {j : Nat} {i : Int} {x : Int32} (hd : decode c.code pc = .ok (.iinc j i, 3)) (hp : pc + 3 = pc') (hl : Ls[j]? = some (.val (.int x))) (hl' : storeLocals Ls j (.int (x + Int32.ofInt i)) = some Ls') (h : own_Fin p.tables e below Rr T (mkF m pc' Ls' st)) : own_Fin p.tables e below Rr T (mkF m pc Ls st) := by
  subst hp; exact own_st h (fun t k => XS.iinc X.here hx rfl hd hl hl' k)
theorem own_dup (X : Stand p l e R s m args below meth c T locs kc ks) (hx : p.tables.exec = Jvm.exec) {v : Value} (hd : decode c.code pc = .ok (.dup, 1)) (hp : pc + 1 = pc') (hc : v.category = 1) (h : own_Fin p.tables e below Rr T (mkF m pc' Ls (v :: v :: st))) : own_Fin p.tables e below Rr T (mkF m pc Ls (v :: st)) := by
  subst hp; exact own_st h (fun t k => XS.dup X.here hx rfl hd rfl hc k)
theorem own_pop (X : Stand p l e R s m args below meth c T locs kc ks) (hx : p.tables.exec = Jvm.exec) {v : Value} (hd : decode c.code pc = .ok (.pop, 1)) (hp : pc + 1 = pc') (hc : v.category = 1) (h : own_Fin p.tables e below Rr T (mkF m pc' Ls st)) : own_Fin p.tables e below Rr T (mkF m pc Ls (v :: st)) := by
  subst hp; exact own_st h (fun t k => XS.pop X.here hx rfl hd rfl hc k)
theorem own_goto (X : Stand p l e R s m args below meth c T locs kc ks) (hx : p.tables.exec = Jvm.exec) {o : Int} (hd : decode c.code pc = .ok (.goto o, 3))  (ho : 0 ≤ (pc : Int) + o) (hp : ((pc : Int) + o).toNat = pc') (h : own_Fin p.tables e below Rr T (mkF m pc' Ls st)) : own_Fin p.tables e below Rr T (mkF m pc Ls st) := own_st h (fun t k => XS.goto X.here hx rfl (pc0 := pc) (pc' := pc') rfl hd ho hp k)
theorem own_ifYes (X : Stand p l e R s m args below meth c T locs kc ks) (hx : p.tables.exec = Jvm.exec) {cd : ClassFile.Cond} {o : Int} {x : Int32} (hd : decode c.code pc = .ok (.ifCond cd o, 3)) (hc : ifCond.holds cd x = true) (ho : 0 ≤ (pc : Int) + o) (hp : ((pc : Int) + o).toNat = pc') (h : own_Fin p.tables e below Rr T (mkF m pc' Ls st)) : own_Fin p.tables e below Rr T (mkF m pc Ls (.int x :: st)) := own_st h (fun t k => XS.ifYes X.here hx rfl (pc0 := pc) (pc' := pc') rfl hd rfl hc ho hp k)
theorem own_icmpYes (X : Stand p l e R s m args below meth c T locs kc ks) (hx : p.tables.exec = Jvm.exec) {cd : ClassFile.Cond} {o : Int} {x y : Int32} (hd : decode c.code pc = .ok (.if_icmp cd o, 3)) (hc : if_icmp.holds cd x y = true) (ho : 0 ≤ (pc : Int) + o) (hp : ((pc : Int) + o).toNat = pc') (h : own_Fin p.tables e below Rr T (mkF m pc' Ls st)) : own_Fin p.tables e below Rr T (mkF m pc Ls (.int y :: .int x :: st)) := own_st h (fun t k => XS.icmpYes X.here hx rfl (pc0 := pc) (pc' := pc') rfl hd rfl hc ho hp k)
theorem own_ifNo (X : Stand p l e R s m args below meth c T locs kc ks) (hx : p.tables.exec = Jvm.exec) {cd : ClassFile.Cond} {o : Int} {x : Int32} (hd : decode c.code pc = .ok (.ifCond cd o, 3)) (hp : pc + 3 = pc') (hc : ifCond.holds cd x = false) (h : own_Fin p.tables e below Rr T (mkF m pc' Ls st)) : own_Fin p.tables e below Rr T (mkF m pc Ls (.int x :: st)) := by
  subst hp; exact own_st h (fun t k => XS.ifNo X.here hx rfl hd rfl hc k)
theorem own_icmpNo (X : Stand p l e R s m args below meth c T locs kc ks) (hx : p.tables.exec = Jvm.exec) {cd : ClassFile.Cond} {o : Int} {x y : Int32} (hd : decode c.code pc = .ok (.if_icmp cd o, 3)) (hp : pc + 3 = pc') (hc : if_icmp.holds cd x y = false) (h : own_Fin p.tables e below Rr T (mkF m pc' Ls st)) : own_Fin p.tables e below Rr T (mkF m pc Ls (.int y :: .int x :: st)) := by
  subst hp; exact own_st h (fun t k => XS.icmpNo X.here hx rfl hd rfl hc k)
theorem own_ldcInt (X : Stand p l e R s m args below meth c T locs kc ks) (hx : p.tables.exec = Jvm.exec) {own : String} {index : Nat} {v : Int32} (hZ : Z.Warmed39 s.vm) (hown : s.vm.findClass own = some m.cls) (w : (Jvm.Cond.constant own index v).before a0 Z = true) (hd : decode c.code pc = .ok (.ldc index, 2)) (hp : pc + 2 = pc') (h : own_Fin p.tables e below Rr T (mkF m pc' Ls (.int v :: st))) : own_Fin p.tables e below Rr T (mkF m pc Ls st) := by
  subst hp; exact own_st h (fun t k => X.ldcInt hx hown (mvT hZ w) (g := mkF m pc Ls st) rfl hd t k)
theorem own_ldc2Long (X : Stand p l e R s m args below meth c T locs kc ks) (hx : p.tables.exec = Jvm.exec) {own : String} {index : Nat} {v : Int64} (hZ : Z.Warmed39 s.vm) (hown : s.vm.findClass own = some m.cls) (w : (Jvm.Cond.constantLong own index v).before a0 Z = true) (hd : decode c.code pc = .ok (.ldc2_w index, 3)) (hp : pc + 3 = pc') (h : own_Fin p.tables e below Rr T (mkF m pc' Ls (.long v :: st))) : own_Fin p.tables e below Rr T (mkF m pc Ls st) := by
  subst hp; exact own_st h (fun t k => X.ldc2Long hx hown (mvT hZ w) (g := mkF m pc Ls st) rfl hd t k)
theorem own_getF (X : Stand p l e R s m args below meth c T locs kc ks) (hx : p.tables.exec = Jvm.exec) {own R0 O n d : String} {index : Nat} {a : Addr} {v : Value} (hZ : Z.Warmed39 s.vm) (hown : s.vm.findClass own = some m.cls) (w : (Jvm.Cond.fieldLink own index R0 n d).before a0 Z = true) (via : Via Z R0 O n d) (eT : T.heap = h) (Fl : Fld Z h a O n d v) (hd : decode c.code pc = .ok (.getfield index, 3)) (hp : pc + 3 = pc')
    (k : ∀ T', Stand p l e R s m args below meth c T' locs kc ks → T'.heap = h → own_Fin p.tables e below Rr T' (mkF m pc' Ls (v :: st))) : own_Fin p.tables e below Rr T (mkF m pc Ls (.ref a :: st)) := by
  obtain ⟨T', X', e', st'⟩ := getF X hx hZ hown (host := "") (Or.inl w) via eT Fl (g := mkF m pc Ls (.ref a :: st)) rfl rfl hd
  subst hp; exact own_st (k T' X' e') st'
end OwnStep
section OwnPop
variable {p : Program} {l : Launch} {e : Env} {R : Room} {s : State} {m : MethodId} {args : Array Value} {below : List Frame} {meth : Method} {c : Code} {T : State} {locs : List Loc} {k n : Nat}
theorem own_pop2 (X : Stand p l e R s m args below meth c T locs k n) (hx : p.tables.exec = Jvm.exec) {pc : Nat} {Ls : Array Slot} {z : Int64} {rest : List Value} {t : State} (hd : decode c.code pc = .ok (.pop2, 1)) (hr : Steps p.tables e below (T.setTop (mkF m (pc + 1) Ls rest)) t) : Steps p.tables e below (T.setTop (mkF m pc Ls (.long z :: rest))) t := by
  jvm_step X.here [X.here.top, hx, hd, Value.category]
  exact hr
end OwnPop
section OwnRet
variable {p : Program} {l : Launch} {e : Env} {R : Room} {s : State} {m : MethodId} {args : Array Value} {below : List Frame} {meth : Method} {c : Code} {T : State} {locs : List Loc} {k n k' n' : Nat} {Q : Option Value → Heap → List Loc → Prop} {pc : Nat} {Ls : Array Slot}
theorem own_retN (X : Stand p l e R s m args below meth c T locs k n) (hx : p.tables.exec = Jvm.exec) {t : FieldType} (hret : meth.sig.returnType = some t) (ht : t = .boolean ∨ t = .byte ∨ t = .char ∨ t = .short) (hlk : meth.locks = false) {z : Int32} {rest : List Value} (hd : decode c.code pc = .ok (.ireturn, 1)) (hk : k ≤ k') (hn : n ≤ n') (hq : Q (some (.int (nar t z))) T.heap locs) : own_Fin p.tables e below (own_End below s Q k' n') T (mkF m pc Ls (.int z :: rest)) := by
  obtain ⟨fs, hr, hrun, hended, hW, hsame⟩ := X.leave (v := some (.int (nar t z))) (fun h => by rw [hret] at h; cases h) hlk
  exact ⟨_, retN X hx hret ht hd hr, hrun, _, hended, _, _, rfl, hq, ⟨_, rfl⟩, hW, hsame.mono hk hn⟩
theorem own_retNW {vm₁ : Vm} {k0 : Nat} (X : Stand p l e R (s.setVm vm₁) m args below meth c T locs k n) (hx : p.tables.exec = Jvm.exec) (hS : s.Since vm₁ k0) (hk0 : k0 ≤ T.heap.size) {t : FieldType} (hret : meth.sig.returnType = some t) (ht : t = .boolean ∨ t = .byte ∨ t = .char ∨ t = .short) (hlk : meth.locks = false) {z : Int32} {rest : List Value} (hd : decode c.code pc = .ok (.ireturn, 1)) (hk : k ≤ k') (hn : n ≤ n') (hq : Q (some (.int (nar t z))) T.heap locs) : own_Fin p.tables e below (own_EndW below s Q k' n') T (mkF m pc Ls (.int z :: rest)) := by
  obtain ⟨fs, hr, hrun, hended, hW⟩ := X.leaveW hS hk0 (v := some (.int (nar t z))) (fun h => by rw [hret] at h; cases h) hlk
  exact ⟨_, retN X hx hret ht hd hr, hrun, _, hended, _, _, rfl, hq, hW.1, hW.2.1, hW.2.2.1, hW.2.2.2.mono hk hn⟩
theorem own_retI (X : Stand p l e R s m args below meth c T locs k n) (hx : p.tables.exec = Jvm.exec) (hret : meth.sig.returnType = some .int) (hlk : meth.locks = false) {z : Int32} {rest : List Value} (hd : decode c.code pc = .ok (.ireturn, 1)) (hk : k ≤ k') (hn : n ≤ n') (hq : Q (some (.int z)) T.heap locs) : own_Fin p.tables e below (own_End below s Q k' n') T (mkF m pc Ls (.int z :: rest)) := by
  obtain ⟨fs, hr, hrun, hended, hW, hsame⟩ := X.leave (v := some (.int z)) (fun h => by rw [hret] at h; cases h) hlk
  exact ⟨_, retI X hx hret hd hr, hrun, _, hended, _, _, rfl, hq, ⟨_, rfl⟩, hW, hsame.mono hk hn⟩
theorem own_retJ (X : Stand p l e R s m args below meth c T locs k n) (hx : p.tables.exec = Jvm.exec) (hret : meth.sig.returnType = some .long) (hlk : meth.locks = false) {z : Int64} (hd : decode c.code pc = .ok (.lreturn, 1)) (hk : k ≤ k') (hn : n ≤ n') (hq : Q (some (.long z)) T.heap locs) : own_Fin p.tables e below (own_End below s Q k' n') T (mkF m pc Ls [.long z]) := by
  obtain ⟨fs, hr, hrun, hended, hW, hsame⟩ := X.leave (v := some (.long z)) (fun h => by rw [hret] at h; cases h) hlk
  exact ⟨_, lreturnOut X hx hret hd hr, hrun, _, hended, _, _, rfl, hq, ⟨_, rfl⟩, hW, hsame.mono hk hn⟩
theorem own_retV (X : Stand p l e R s m args below meth c T locs k n) (hx : p.tables.exec = Jvm.exec) (hret : meth.sig.returnType = none) (hlk : meth.locks = false) (hd : decode c.code pc = .ok (.return_, 1)) (hk : k ≤ k') (hn : n ≤ n') (hq : Q none T.heap locs) : own_Fin p.tables e below (own_End below s Q k' n') T (mkF m pc Ls []) := by
  obtain ⟨fs, hr, hrun, hended, hW, hsame⟩ := X.leave (v := none) (fun _ => rfl) hlk
  exact ⟨_, X.returnOut hx hret hd hr, hrun, _, hended, _, _, rfl, hq, ⟨_, rfl⟩, hW, hsame.mono hk hn⟩
end OwnRet
end Jvm.Pilot.@@N@@
namespace Jvm.Pilot.@@N@@
open Jvm Jvm.ClassFile Sem Op Lib Jvm.Free Jvm.Stand Jvm.LawKit Jvm.RoadKit Bundle Jvm.Pilot.@@N@@.Jvm.D
theorem pd_0 : parseMethodDescriptor "()V" = some ⟨[], none⟩ := by decide +kernel
theorem pd_1 : parseMethodDescriptor "(JJ)J" = some ⟨[.long, .long], some .long⟩ := by decide +kernel
theorem pd_2 : parseMethodDescriptor "(JJ)V" = some ⟨[.long, .long], none⟩ := by decide +kernel
theorem pd_3 : parseMethodDescriptor "(J)Z" = some ⟨[.long], some .boolean⟩ := by decide +kernel
theorem d1_0 : decode jdk_29_method_70_code 0 = .ok (.lload_n 0, 1) := by decide +kernel
theorem d1_1 : decode jdk_29_method_70_code 1 = .ok (.lload_n 2, 1) := by decide +kernel
theorem d1_2 : decode jdk_29_method_70_code 2 = .ok (.lcmp, 1) := by decide +kernel
theorem d1_3 : decode jdk_29_method_70_code 3 = .ok (.ifCond .gt 7, 3) := by decide +kernel
theorem d1_6 : decode jdk_29_method_70_code 6 = .ok (.lload_n 0, 1) := by decide +kernel
theorem d1_7 : decode jdk_29_method_70_code 7 = .ok (.goto 4, 3) := by decide +kernel
theorem d1_10 : decode jdk_29_method_70_code 10 = .ok (.lload_n 2, 1) := by decide +kernel
theorem d1_11 : decode jdk_29_method_70_code 11 = .ok (.lreturn, 1) := by decide +kernel
def own_f1 (q1 : Int64) (q2 : Int64) : Int64 :=
  if q2 < q1 then q2 else
  q1
set_option maxRecDepth 65536 in
set_option maxHeartbeats 40000000 in
theorem sg1_0 {p : Program} (l : Launch) {e : Env} {s : State} {m : MethodId} {args : Array Value} {below : List Frame} {meth : Method} {c : Code} {Z : State} {a0 : Array Value} (hw : ∀ d ∈ tables_1, d.before a0 Z = true) (hx : p.tables.exec = Jvm.exec) (hZ : Z.Warmed39 s.vm) (hby : c.code = jdk_29_method_70_code) (hml : c.maxLocals = 4) (hown : s.vm.findClass "java/lang/Math" = some m.cls) (hnm : meth.name = "min") (hret : meth.sig.returnType = (some .long)) (hlk : meth.locks = false) (q1 : Int64) (q2 : Int64) {h0 : Heap} {n0 : Nat} (Z0 : n0 ≤ h0.size) {T0 : State} {L0 : List Loc} (X0 : Stand p l e ({ frames := 0, cells := 0, slots := 0, locals := 0 } : Room) s m args below meth c T0 L0 0 0) (N0 : Fr n0 L0) (e0 : T0.heap = h0)  :
    own_Fin p.tables e below (own_End below s (own_P h0 n0 (some (.long (own_f1 q1 q2)))) 0 0) T0 (mkF m 0 #[.val (.long q1), .second, .val (.long q2), .second] []) := by
  refine own_lloadN X0 hx (hb hby d1_0) (pc' := 1) rfl rfl ?_
  refine own_lloadN X0 hx (hb hby d1_1) (pc' := 2) rfl rfl ?_
  refine own_lcmp X0 hx (hb hby d1_2) (pc' := 3) rfl ?_
  by_cases hc1 : q2 < q1
  · refine own_ifYes X0 hx (hb hby d1_3) ((if0 _ _).trans (tlt (own_lc_gt.mpr hc1)).2.2.1) (pc' := 10) (by decide) (by decide) ?_
    refine own_lloadN X0 hx (hb hby d1_10) (pc' := 11) rfl rfl ?_
    refine own_retJ X0 hx hret hlk (hb hby d1_11) (by decide) (by decide) ?_
    show own_P _ _ _ _ T0.heap _
    exact ⟨(congrArg some (congrArg Value.long (show q2 = (own_f1 q1 q2) from by rw [own_f1, if_pos hc1]))), N0, e0⟩
  · refine own_ifNo X0 hx (hb hby d1_3) (pc' := 6) rfl ((if0 _ _).trans (flt (mt own_lc_gt.mp hc1)).2.2.1) ?_
    refine own_lloadN X0 hx (hb hby d1_6) (pc' := 7) rfl rfl ?_
    refine own_goto X0 hx (hb hby d1_7) (pc' := 11) (by decide) (by decide) ?_
    refine own_retJ X0 hx hret hlk (hb hby d1_11) (by decide) (by decide) ?_
    show own_P _ _ _ _ T0.heap _
    exact ⟨(congrArg some (congrArg Value.long (show q1 = (own_f1 q1 q2) from by rw [own_f1, if_neg hc1]))), N0, e0⟩
theorem ef_1 (m : MethodId) (q1 : Int64) (q2 : Int64) : entryFrame m #[(.long q1), (.long q2)] 4 = mkF m 0 #[.val (.long q1), .second, .val (.long q2), .second] [] := by first | (simp [entryFrame, mkF, argsToLocals, Value.category]; done) | rfl
set_option maxRecDepth 65536 in
set_option maxHeartbeats 40000000 in
theorem rm1 (l : Launch) (Z : State) (a0 : Array Value) (hw : ∀ d ∈ tables_1, d.before a0 Z = true) (ws : List Jvm.Cond) (q1 : Int64) (q2 : Int64) (h0 : Heap) (n0 : Nat) (Z0 : n0 ≤ h0.size)  :
    MetFree l (⟨"java/lang/Math", "min", "(JJ)J"⟩ : MethodName) (head1 (Jvm.Cond.code (⟨"java/lang/Math", "min", "(JJ)J"⟩ : MethodName) jdk_29_method_70_code 4 (some .long) :: ws) ({ frames := 0, cells := 0, slots := 0, locals := 0 } : Room)) (fun a U => a = #[(.long q1), (.long q2)] ∧ Z.Warmed39 U.vm ∧ U.heap = h0) (fun _ _ _ _ _ => True) (fun _ U o U' => ∃ v L, o = .returned v ∧ (own_P h0 n0 (some (.long (own_f1 q1 q2)))) v U'.heap L ∧ FrameEnd U o U' L ({ frames := 0, cells := 0, slots := 0, locals := 0 } : Room).cells ({ frames := 0, cells := 0, slots := 0, locals := 0 } : Room).slots) := by
  refine MetFree.of_bodySF (Jvm.Free.JP.mathPlain rfl (by decide +kernel)) hisR ?_
  intro p e s m args below meth c s₁ Bd hml0 hP hK
  obtain ⟨rfl, hZ, hh⟩ := hP
  have hown : s.vm.findClass "java/lang/Math" = some m.cls := findClass_of_methodNamed Bd.named
  have hnm := (name_of_methodNamed Bd.named Bd.method).1
  have X0 : Stand p l e ({ frames := 0, cells := 0, slots := 0, locals := 0 } : Room) s m #[(.long q1), (.long q2)] below meth c s₁ [] 0 0 := Stand.of_body Bd
  have e0 : s₁.heap = h0 := by rw [← hh, Bd.state]; rfl
  have H := sg1_0 l hw Bd.exec hZ Bd.bytes hml0 hown hnm Bd.returns Bd.notSynchronized q1 q2 Z0 X0 (Fr.nil n0) e0
  obtain ⟨t, h1, h2, o, h3, h4⟩ := H
  exact ⟨t, o, castTop (ef_1 m q1 q2) h1, h2, h3, h4⟩
theorem d2_0 : decode jdk_29_method_66_code 0 = .ok (.lload_n 0, 1) := by decide +kernel
theorem d2_1 : decode jdk_29_method_66_code 1 = .ok (.lload_n 2, 1) := by decide +kernel
theorem d2_2 : decode jdk_29_method_66_code 2 = .ok (.lcmp, 1) := by decide +kernel
theorem d2_3 : decode jdk_29_method_66_code 3 = .ok (.ifCond .lt 7, 3) := by decide +kernel
theorem d2_6 : decode jdk_29_method_66_code 6 = .ok (.lload_n 0, 1) := by decide +kernel
theorem d2_7 : decode jdk_29_method_66_code 7 = .ok (.goto 4, 3) := by decide +kernel
theorem d2_10 : decode jdk_29_method_66_code 10 = .ok (.lload_n 2, 1) := by decide +kernel
theorem d2_11 : decode jdk_29_method_66_code 11 = .ok (.lreturn, 1) := by decide +kernel
def own_f2 (q1 : Int64) (q2 : Int64) : Int64 :=
  if q1 < q2 then q2 else
  q1
set_option maxRecDepth 65536 in
set_option maxHeartbeats 40000000 in
theorem sg2_0 {p : Program} (l : Launch) {e : Env} {s : State} {m : MethodId} {args : Array Value} {below : List Frame} {meth : Method} {c : Code} {Z : State} {a0 : Array Value} (hw : ∀ d ∈ tables_1, d.before a0 Z = true) (hx : p.tables.exec = Jvm.exec) (hZ : Z.Warmed39 s.vm) (hby : c.code = jdk_29_method_66_code) (hml : c.maxLocals = 4) (hown : s.vm.findClass "java/lang/Math" = some m.cls) (hnm : meth.name = "max") (hret : meth.sig.returnType = (some .long)) (hlk : meth.locks = false) (q1 : Int64) (q2 : Int64) {h0 : Heap} {n0 : Nat} (Z0 : n0 ≤ h0.size) {T0 : State} {L0 : List Loc} (X0 : Stand p l e ({ frames := 0, cells := 0, slots := 0, locals := 0 } : Room) s m args below meth c T0 L0 0 0) (N0 : Fr n0 L0) (e0 : T0.heap = h0)  :
    own_Fin p.tables e below (own_End below s (own_P h0 n0 (some (.long (own_f2 q1 q2)))) 0 0) T0 (mkF m 0 #[.val (.long q1), .second, .val (.long q2), .second] []) := by
  refine own_lloadN X0 hx (hb hby d2_0) (pc' := 1) rfl rfl ?_
  refine own_lloadN X0 hx (hb hby d2_1) (pc' := 2) rfl rfl ?_
  refine own_lcmp X0 hx (hb hby d2_2) (pc' := 3) rfl ?_
  by_cases hc2 : q1 < q2
  · refine own_ifYes X0 hx (hb hby d2_3) ((if0 _ _).trans (tlt (own_lc_lt.mpr hc2)).1) (pc' := 10) (by decide) (by decide) ?_
    refine own_lloadN X0 hx (hb hby d2_10) (pc' := 11) rfl rfl ?_
    refine own_retJ X0 hx hret hlk (hb hby d2_11) (by decide) (by decide) ?_
    show own_P _ _ _ _ T0.heap _
    exact ⟨(congrArg some (congrArg Value.long (show q2 = (own_f2 q1 q2) from by rw [own_f2, if_pos hc2]))), N0, e0⟩
  · refine own_ifNo X0 hx (hb hby d2_3) (pc' := 6) rfl ((if0 _ _).trans (flt (mt own_lc_lt.mp hc2)).1) ?_
    refine own_lloadN X0 hx (hb hby d2_6) (pc' := 7) rfl rfl ?_
    refine own_goto X0 hx (hb hby d2_7) (pc' := 11) (by decide) (by decide) ?_
    refine own_retJ X0 hx hret hlk (hb hby d2_11) (by decide) (by decide) ?_
    show own_P _ _ _ _ T0.heap _
    exact ⟨(congrArg some (congrArg Value.long (show q1 = (own_f2 q1 q2) from by rw [own_f2, if_neg hc2]))), N0, e0⟩
theorem ef_2 (m : MethodId) (q1 : Int64) (q2 : Int64) : entryFrame m #[(.long q1), (.long q2)] 4 = mkF m 0 #[.val (.long q1), .second, .val (.long q2), .second] [] := by first | (simp [entryFrame, mkF, argsToLocals, Value.category]; done) | rfl
set_option maxRecDepth 65536 in
set_option maxHeartbeats 40000000 in
theorem rm2 (l : Launch) (Z : State) (a0 : Array Value) (hw : ∀ d ∈ tables_1, d.before a0 Z = true) (ws : List Jvm.Cond) (q1 : Int64) (q2 : Int64) (h0 : Heap) (n0 : Nat) (Z0 : n0 ≤ h0.size)  :
    MetFree l (⟨"java/lang/Math", "max", "(JJ)J"⟩ : MethodName) (head1 (Jvm.Cond.code (⟨"java/lang/Math", "max", "(JJ)J"⟩ : MethodName) jdk_29_method_66_code 4 (some .long) :: ws) ({ frames := 0, cells := 0, slots := 0, locals := 0 } : Room)) (fun a U => a = #[(.long q1), (.long q2)] ∧ Z.Warmed39 U.vm ∧ U.heap = h0) (fun _ _ _ _ _ => True) (fun _ U o U' => ∃ v L, o = .returned v ∧ (own_P h0 n0 (some (.long (own_f2 q1 q2)))) v U'.heap L ∧ FrameEnd U o U' L ({ frames := 0, cells := 0, slots := 0, locals := 0 } : Room).cells ({ frames := 0, cells := 0, slots := 0, locals := 0 } : Room).slots) := by
  refine MetFree.of_bodySF (Jvm.Free.JP.mathPlain rfl (by decide +kernel)) hisR ?_
  intro p e s m args below meth c s₁ Bd hml0 hP hK
  obtain ⟨rfl, hZ, hh⟩ := hP
  have hown : s.vm.findClass "java/lang/Math" = some m.cls := findClass_of_methodNamed Bd.named
  have hnm := (name_of_methodNamed Bd.named Bd.method).1
  have X0 : Stand p l e ({ frames := 0, cells := 0, slots := 0, locals := 0 } : Room) s m #[(.long q1), (.long q2)] below meth c s₁ [] 0 0 := Stand.of_body Bd
  have e0 : s₁.heap = h0 := by rw [← hh, Bd.state]; rfl
  have H := sg2_0 l hw Bd.exec hZ Bd.bytes hml0 hown hnm Bd.returns Bd.notSynchronized q1 q2 Z0 X0 (Fr.nil n0) e0
  obtain ⟨t, h1, h2, o, h3, h4⟩ := H
  exact ⟨t, o, castTop (ef_2 m q1 q2) h1, h2, h3, h4⟩
theorem d4_0 : decode jdk_30_method_1_code 0 = .ok (.aload_n 0, 1) := by decide +kernel
theorem d4_1 : decode jdk_30_method_1_code 1 = .ok (.invokespecial 1, 3) := by decide +kernel
theorem d4_4 : decode jdk_30_method_1_code 4 = .ok (.return_, 1) := by decide +kernel
theorem pn_4 : plainName "java/lang/Record" = true := by first | (simp [plainName, overriddenIn]; done) | decide +kernel
set_option maxRecDepth 65536 in
set_option maxHeartbeats 40000000 in
theorem sg4_0 {p : Program} (l : Launch) {e : Env} {s : State} {m : MethodId} {args : Array Value} {below : List Frame} {meth : Method} {c : Code} {Z : State} {a0 : Array Value} (hw : ∀ d ∈ tables_1, d.before a0 Z = true) (hx : p.tables.exec = Jvm.exec) (hZ : Z.Warmed39 s.vm) (hby : c.code = jdk_30_method_1_code) (hml : c.maxLocals = 1) (hown : s.vm.findClass "java/lang/Record" = some m.cls) (hnm : meth.name = "<init>") (hret : meth.sig.returnType = none) (hlk : meth.locks = false) (q1 : Addr) {h0 : Heap} {n0 : Nat} (Z0 : n0 ≤ h0.size) {T0 : State} {L0 : List Loc} (X0 : Stand p l e ({ frames := 1, cells := 0, slots := 0, locals := 12 } : Room) s m args below meth c T0 L0 0 0) (N0 : Fr n0 L0) (e0 : T0.heap = h0)  :
    own_Fin p.tables e below (own_End below s (own_P h0 n0 none) 0 0) T0 (mkF m 0 #[.val (.ref q1)] []) := by
  refine own_aloadN X0 hx (hb hby d4_0) (pc' := 1) rfl rfl rfl ?_
  obtain ⟨T3, X3, e3, st3⟩ := initO X0 hx hZ hown (hw _ (List.mem_of_getElem? (i := 18) rfl)) (hw _ (List.mem_of_getElem? (i := 19) rfl)) (hw _ (List.mem_of_getElem? (i := 20) rfl)) e0 (g := (mkF m 1 #[.val (.ref q1)] [(.ref q1)])) rfl (by rw [hml]; rfl) rfl (hb hby d4_1) (by decide) (W := 0) (by show 2 * 0 + _ ≤ _; exact Nat.le_of_eq rfl) (by decide)
  refine own_st ?_ st3
  show own_Fin _ _ _ _ T3 (mkF m 4 #[.val (.ref q1)] [])
  refine own_retV X3 hx hret hlk (hb hby d4_4) (by decide) (by decide) ?_
  show own_P _ _ _ _ T3.heap _
  exact ⟨rfl, N0, e3⟩
theorem ef_4 (m : MethodId) (q1 : Addr) : entryFrame m #[(.ref q1)] 1 = mkF m 0 #[.val (.ref q1)] [] := by first | (simp [entryFrame, mkF, argsToLocals, Value.category]; done) | rfl
set_option maxRecDepth 65536 in
set_option maxHeartbeats 40000000 in
theorem rm4 (l : Launch) (Z : State) (a0 : Array Value) (hw : ∀ d ∈ tables_1, d.before a0 Z = true) (ws : List Jvm.Cond) (q1 : Addr) (h0 : Heap) (n0 : Nat) (Z0 : n0 ≤ h0.size)  :
    MetFree l (⟨"java/lang/Record", "<init>", "()V"⟩ : MethodName) (head1 (Jvm.Cond.code (⟨"java/lang/Record", "<init>", "()V"⟩ : MethodName) jdk_30_method_1_code 1 none :: ws) ({ frames := 1, cells := 0, slots := 0, locals := 12 } : Room)) (fun a U => a = #[(.ref q1)] ∧ Z.Warmed39 U.vm ∧ U.heap = h0) (fun _ _ _ _ _ => True) (fun _ U o U' => ∃ v L, o = .returned v ∧ (own_P h0 n0 none) v U'.heap L ∧ FrameEnd U o U' L ({ frames := 1, cells := 0, slots := 0, locals := 12 } : Room).cells ({ frames := 1, cells := 0, slots := 0, locals := 12 } : Room).slots) := by
  refine MetFree.of_bodySF (plainFor_of_name pn_4) hisR ?_
  intro p e s m args below meth c s₁ Bd hml0 hP hK
  obtain ⟨rfl, hZ, hh⟩ := hP
  have hown : s.vm.findClass "java/lang/Record" = some m.cls := findClass_of_methodNamed Bd.named
  have hnm := (name_of_methodNamed Bd.named Bd.method).1
  have X0 : Stand p l e ({ frames := 1, cells := 0, slots := 0, locals := 12 } : Room) s m #[(.ref q1)] below meth c s₁ [] 0 0 := Stand.of_body Bd
  have e0 : s₁.heap = h0 := by rw [← hh, Bd.state]; rfl
  have H := sg4_0 l hw Bd.exec hZ Bd.bytes hml0 hown hnm Bd.returns Bd.notSynchronized q1 Z0 X0 (Fr.nil n0) e0
  obtain ⟨t, h1, h2, o, h3, h4⟩ := H
  exact ⟨t, o, castTop (ef_4 m q1) h1, h2, h3, h4⟩
theorem d3_0 : decode prog_24_method_1_code 0 = .ok (.aload_n 0, 1) := by decide +kernel
theorem d3_1 : decode prog_24_method_1_code 1 = .ok (.invokespecial 3, 3) := by decide +kernel
theorem d3_4 : decode prog_24_method_1_code 4 = .ok (.aload_n 0, 1) := by decide +kernel
theorem d3_5 : decode prog_24_method_1_code 5 = .ok (.lload_n 1, 1) := by decide +kernel
theorem d3_6 : decode prog_24_method_1_code 6 = .ok (.putfield 9, 3) := by decide +kernel
theorem d3_9 : decode prog_24_method_1_code 9 = .ok (.aload_n 0, 1) := by decide +kernel
theorem d3_10 : decode prog_24_method_1_code 10 = .ok (.lload_n 3, 1) := by decide +kernel
theorem d3_11 : decode prog_24_method_1_code 11 = .ok (.putfield 15, 3) := by decide +kernel
theorem d3_14 : decode prog_24_method_1_code 14 = .ok (.return_, 1) := by decide +kernel
theorem pn_3 : plainName "StandInLedger$Silence" = true := by first | (simp [plainName, overriddenIn]; done) | decide +kernel
def own_Q3 (Z : State) (q1 : Addr) (q2 : Int64) (q3 : Int64) (w_from_q1 : Int64) (w_until_q1 : Int64) (h0 : Heap) (n0 : Nat) (v : Option Value) (h : Heap) (L : List Loc) : Prop := v = none ∧ Fr n0 L ∧ Keep h0 h [q1] ∧ Exa Z h q1 "StandInLedger$Silence" ∧ Fld Z h q1 "StandInLedger$Silence" "from" "J" (.long q2) ∧ Fld Z h q1 "StandInLedger$Silence" "until" "J" (.long q3)
set_option maxRecDepth 65536 in
set_option maxHeartbeats 40000000 in
theorem sg3_0 {p : Program} (l : Launch) {e : Env} {s : State} {m : MethodId} {args : Array Value} {below : List Frame} {meth : Method} {c : Code} {Z : State} {a0 : Array Value} (hw : ∀ d ∈ tables_1, d.before a0 Z = true) (hx : p.tables.exec = Jvm.exec) (hZ : Z.Warmed39 s.vm) (hby : c.code = prog_24_method_1_code) (hml : c.maxLocals = 5) (hown : s.vm.findClass "StandInLedger$Silence" = some m.cls) (hnm : meth.name = "<init>") (hret : meth.sig.returnType = none) (hlk : meth.locks = false) (q1 : Addr) (q2 : Int64) (q3 : Int64) (w_from_q1 : Int64) (w_until_q1 : Int64) {h0 : Heap} {n0 : Nat} (Z0 : n0 ≤ h0.size) {T0 : State} {L0 : List Loc} (X0 : Stand p l e ({ frames := 2, cells := 0, slots := 0, locals := 24 } : Room) s m args below meth c T0 L0 0 0) (N0 : Fr n0 L0) (e0 : T0.heap = h0) (E_q1 : Exa Z h0 q1 "StandInLedger$Silence") (g_q1 : n0 ≤ q1) (F_from_q1 : Fld Z h0 q1 "StandInLedger$Silence" "from" "J" (.long w_from_q1)) (F_until_q1 : Fld Z h0 q1 "StandInLedger$Silence" "until" "J" (.long w_until_q1)) :
    own_Fin p.tables e below (own_End below s (own_Q3 Z q1 q2 q3 w_from_q1 w_until_q1 h0 n0) 0 0) T0 (mkF m 0 #[.val (.ref q1), .val (.long q2), .second, .val (.long q3), .second] []) := by
  have K0 := Keep.refl h0 [q1]
  refine own_aloadN X0 hx (hb hby d3_0) (pc' := 1) rfl rfl rfl ?_
  obtain ⟨_, _, ⟨T4, L4, k4, n4⟩, -, X4, ⟨Lc4, hQ4, l4, y4, z4⟩, st4⟩ := X0.specialBack hx (y := (⟨"java/lang/Record", "<init>", "()V"⟩ : MethodName)) rfl hown (mvT hZ (hw _ (List.mem_of_getElem? (i := 13) rfl))) (mvT hZ (hw _ (List.mem_of_getElem? (i := 14) rfl))) (mvT hZ (hw _ (List.mem_of_getElem? (i := 17) rfl))) (by decide) (backOf (W := 0) (rm4 l Z a0 hw [] q1 h0 n0 Z0 ) hZ (hw _ (List.mem_of_getElem? (i := 17) rfl)) (hw _ (List.mem_of_getElem? (i := 16) rfl)) (by decide) (by decide)) (g := (mkF m 1 #[.val (.ref q1), .val (.long q2), .second, .val (.long q3), .second] [(.ref q1)])) rfl (by rw [hml]; rfl) (Steps.refl _) (a := q1) (argsL := []) (rest := []) (lenOf pd_0 rfl) rfl (by show 2 * 0 + _ ≤ _; exact Nat.le_of_eq rfl) (hb hby d3_1) (fun _ _ => ⟨rfl, e0, (by decide : 0 + 0 ≤ _), (by decide : 0 + 0 ≤ _)⟩)
  dsimp only [Pt.U, Pt.locs, Pt.cells, Pt.slots] at X4 l4 y4 z4 st4 hQ4
  subst l4 y4 z4
  obtain ⟨rfl, N4q, e4'⟩ := hQ4
  have N4 := Fr.app N0 N4q
  refine own_st ?_ (fun t k => st4.trans k)
  show own_Fin _ _ _ _ T4 (mkF m 4 #[.val (.ref q1), .val (.long q2), .second, .val (.long q3), .second] [])
  refine own_aloadN X4 hx (hb hby d3_4) (pc' := 5) rfl rfl rfl ?_
  refine own_lloadN X4 hx (hb hby d3_5) (pc' := 6) rfl rfl ?_
  obtain ⟨T5, h5, X5, e5, W5, st5⟩ := putF X4 hx hZ hown (host := "") (Or.inl (hw _ (List.mem_of_getElem? (i := 21) rfl))) Via.refl e4' F_from_q1 E_q1 (Or.inr ⟨(hw _ (List.mem_of_getElem? (i := 22) rfl)), rfl, hnm⟩) (hw _ (List.mem_of_getElem? (i := 8) rfl)) (ty := .long) (by decide) rfl rfl (g := (mkF m 6 #[.val (.ref q1), .val (.long q2), .second, .val (.long q3), .second] [(.long q2), (.ref q1)])) rfl rfl (hb hby d3_6)
  have E_q1_5 : Exa Z h5 q1 "StandInLedger$Silence" := E_q1.wr W5
  have F_q1_from_5 : Fld Z h5 q1 "StandInLedger$Silence" "from" "J" (.long q2) := F_from_q1.same W5
  have F_q1_until_5 : Fld Z h5 q1 "StandInLedger$Silence" "until" "J" (.long w_until_q1) := F_until_q1.other W5 (Or.inr (slot_ne (Or.inr (hw _ (List.mem_of_getElem? (i := 24) rfl))) (Or.inr (hw _ (List.mem_of_getElem? (i := 22) rfl))) (by decide) (t := .long) (t' := .long) (by decide) (by decide)))
  have N5 := Fr.snoc X5 N4 g_q1
  have sz5 : n0 ≤ h5.size := Nat.le_trans Z0 (Keep.of_wr W5).1
  have K5 : Keep h0 h5 [q1] := K0.wr W5 (Or.inl (List.mem_of_getElem? (i := 0) rfl))
  refine own_st ?_ st5
  show own_Fin _ _ _ _ T5 (mkF m 9 #[.val (.ref q1), .val (.long q2), .second, .val (.long q3), .second] [])
  refine own_aloadN X5 hx (hb hby d3_9) (pc' := 10) rfl rfl rfl ?_
  refine own_lloadN X5 hx (hb hby d3_10) (pc' := 11) rfl rfl ?_
  obtain ⟨T6, h6, X6, e6, W6, st6⟩ := putF X5 hx hZ hown (host := "") (Or.inl (hw _ (List.mem_of_getElem? (i := 23) rfl))) Via.refl e5 F_q1_until_5 E_q1_5 (Or.inr ⟨(hw _ (List.mem_of_getElem? (i := 24) rfl)), rfl, hnm⟩) (hw _ (List.mem_of_getElem? (i := 8) rfl)) (ty := .long) (by decide) rfl rfl (g := (mkF m 11 #[.val (.ref q1), .val (.long q2), .second, .val (.long q3), .second] [(.long q3), (.ref q1)])) rfl rfl (hb hby d3_11)
  have E_q1_6 : Exa Z h6 q1 "StandInLedger$Silence" := E_q1_5.wr W6
  have F_q1_from_6 : Fld Z h6 q1 "StandInLedger$Silence" "from" "J" (.long q2) := F_q1_from_5.other W6 (Or.inr (slot_ne (Or.inr (hw _ (List.mem_of_getElem? (i := 22) rfl))) (Or.inr (hw _ (List.mem_of_getElem? (i := 24) rfl))) (by decide) (t := .long) (t' := .long) (by decide) (by decide)))
  have F_q1_until_6 : Fld Z h6 q1 "StandInLedger$Silence" "until" "J" (.long q3) := F_q1_until_5.same W6
  have N6 := Fr.snoc X6 N5 g_q1
  have sz6 : n0 ≤ h6.size := Nat.le_trans sz5 (Keep.of_wr W6).1
  have K6 : Keep h0 h6 [q1] := K5.wr W6 (Or.inl (List.mem_of_getElem? (i := 0) rfl))
  refine own_st ?_ st6
  show own_Fin _ _ _ _ T6 (mkF m 14 #[.val (.ref q1), .val (.long q2), .second, .val (.long q3), .second] [])
  refine own_retV X6 hx hret hlk (hb hby d3_14) (by decide) (by decide) ?_
  show own_Q3 Z q1 q2 q3 w_from_q1 w_until_q1 h0 n0 _ T6.heap _
  rw [e6]
  exact ⟨rfl, N6, K6, E_q1_6, F_q1_from_6, F_q1_until_6⟩
theorem ef_3 (m : MethodId) (q1 : Addr) (q2 : Int64) (q3 : Int64) : entryFrame m #[(.ref q1), (.long q2), (.long q3)] 5 = mkF m 0 #[.val (.ref q1), .val (.long q2), .second, .val (.long q3), .second] [] := by first | (simp [entryFrame, mkF, argsToLocals, Value.category]; done) | rfl
set_option maxRecDepth 65536 in
set_option maxHeartbeats 40000000 in
theorem rm3 (l : Launch) (Z : State) (a0 : Array Value) (hw : ∀ d ∈ tables_1, d.before a0 Z = true) (ws : List Jvm.Cond) (q1 : Addr) (q2 : Int64) (q3 : Int64) (w_from_q1 : Int64) (w_until_q1 : Int64) (h0 : Heap) (n0 : Nat) (Z0 : n0 ≤ h0.size) (E_q1 : Exa Z h0 q1 "StandInLedger$Silence") (g_q1 : n0 ≤ q1) (F_from_q1 : Fld Z h0 q1 "StandInLedger$Silence" "from" "J" (.long w_from_q1)) (F_until_q1 : Fld Z h0 q1 "StandInLedger$Silence" "until" "J" (.long w_until_q1)) :
    MetFree l (⟨"StandInLedger$Silence", "<init>", "(JJ)V"⟩ : MethodName) (head1 (Jvm.Cond.code (⟨"StandInLedger$Silence", "<init>", "(JJ)V"⟩ : MethodName) prog_24_method_1_code 5 none :: ws) ({ frames := 2, cells := 0, slots := 0, locals := 24 } : Room)) (fun a U => a = #[(.ref q1), (.long q2), (.long q3)] ∧ Z.Warmed39 U.vm ∧ U.heap = h0) (fun _ _ _ _ _ => True) (fun _ U o U' => ∃ v L, o = .returned v ∧ (own_Q3 Z q1 q2 q3 w_from_q1 w_until_q1 h0 n0) v U'.heap L ∧ FrameEnd U o U' L ({ frames := 2, cells := 0, slots := 0, locals := 24 } : Room).cells ({ frames := 2, cells := 0, slots := 0, locals := 24 } : Room).slots) := by
  refine MetFree.of_bodySF (plainFor_of_name pn_3) hisR ?_
  intro p e s m args below meth c s₁ Bd hml0 hP hK
  obtain ⟨rfl, hZ, hh⟩ := hP
  have hown : s.vm.findClass "StandInLedger$Silence" = some m.cls := findClass_of_methodNamed Bd.named
  have hnm := (name_of_methodNamed Bd.named Bd.method).1
  have X0 : Stand p l e ({ frames := 2, cells := 0, slots := 0, locals := 24 } : Room) s m #[(.ref q1), (.long q2), (.long q3)] below meth c s₁ [] 0 0 := Stand.of_body Bd
  have e0 : s₁.heap = h0 := by rw [← hh, Bd.state]; rfl
  have H := sg3_0 l hw Bd.exec hZ Bd.bytes hml0 hown hnm Bd.returns Bd.notSynchronized q1 q2 q3 w_from_q1 w_until_q1 Z0 X0 (Fr.nil n0) e0 E_q1 g_q1 F_from_q1 F_until_q1
  obtain ⟨t, h1, h2, o, h3, h4⟩ := H
  exact ⟨t, o, castTop (ef_3 m q1 q2 q3) h1, h2, h3, h4⟩
theorem d6_0 : decode prog_24_method_3_code 0 = .ok (.lload_n 1, 1) := by decide +kernel
theorem d6_1 : decode prog_24_method_3_code 1 = .ok (.aload_n 0, 1) := by decide +kernel
theorem d6_2 : decode prog_24_method_3_code 2 = .ok (.getfield 9, 3) := by decide +kernel
theorem d6_5 : decode prog_24_method_3_code 5 = .ok (.lcmp, 1) := by decide +kernel
theorem d6_6 : decode prog_24_method_3_code 6 = .ok (.ifCond .lt 16, 3) := by decide +kernel
theorem d6_9 : decode prog_24_method_3_code 9 = .ok (.lload_n 1, 1) := by decide +kernel
theorem d6_10 : decode prog_24_method_3_code 10 = .ok (.aload_n 0, 1) := by decide +kernel
theorem d6_11 : decode prog_24_method_3_code 11 = .ok (.getfield 15, 3) := by decide +kernel
theorem d6_14 : decode prog_24_method_3_code 14 = .ok (.lcmp, 1) := by decide +kernel
theorem d6_15 : decode prog_24_method_3_code 15 = .ok (.ifCond .ge 7, 3) := by decide +kernel
theorem d6_18 : decode prog_24_method_3_code 18 = .ok (.iconst 1, 1) := by decide +kernel
theorem d6_19 : decode prog_24_method_3_code 19 = .ok (.goto 4, 3) := by decide +kernel
theorem d6_22 : decode prog_24_method_3_code 22 = .ok (.iconst 0, 1) := by decide +kernel
theorem d6_23 : decode prog_24_method_3_code 23 = .ok (.ireturn, 1) := by decide +kernel
theorem pn_6 : plainName "StandInLedger$Silence" = true := by first | (simp [plainName, overriddenIn]; done) | decide +kernel
def own_f6 (q2 : Int64) (w_from_q1 : Int64) (w_until_q1 : Int64) : Int32 :=
  if q2 < w_from_q1 then (0 : Int32) else
  if q2 < w_until_q1 then (1 : Int32) else
  (0 : Int32)
set_option maxRecDepth 65536 in
set_option maxHeartbeats 40000000 in
theorem sg6_0 {p : Program} (l : Launch) {e : Env} {s : State} {m : MethodId} {args : Array Value} {below : List Frame} {meth : Method} {c : Code} {Z : State} {a0 : Array Value} (hw : ∀ d ∈ tables_1, d.before a0 Z = true) (hx : p.tables.exec = Jvm.exec) (hZ : Z.Warmed39 s.vm) (hby : c.code = prog_24_method_3_code) (hml : c.maxLocals = 3) (hown : s.vm.findClass "StandInLedger$Silence" = some m.cls) (hnm : meth.name = "covers") (hret : meth.sig.returnType = (some .boolean)) (hlk : meth.locks = false) (q1 : Addr) (q2 : Int64) (w_from_q1 : Int64) (w_until_q1 : Int64) {h0 : Heap} {n0 : Nat} (Z0 : n0 ≤ h0.size) {T0 : State} {L0 : List Loc} (X0 : Stand p l e ({ frames := 0, cells := 0, slots := 0, locals := 0 } : Room) s m args below meth c T0 L0 0 0) (N0 : Fr n0 L0) (e0 : T0.heap = h0) (E_q1 : Exa Z h0 q1 "StandInLedger$Silence") (F_from_q1 : Fld Z h0 q1 "StandInLedger$Silence" "from" "J" (.long w_from_q1)) (F_until_q1 : Fld Z h0 q1 "StandInLedger$Silence" "until" "J" (.long w_until_q1)) :
    own_Fin p.tables e below (own_End below s (own_P h0 n0 (some (.int (own_f6 q2 w_from_q1 w_until_q1)))) 0 0) T0 (mkF m 0 #[.val (.ref q1), .val (.long q2), .second] []) := by
  refine own_lloadN X0 hx (hb hby d6_0) (pc' := 1) rfl rfl ?_
  refine own_aloadN X0 hx (hb hby d6_1) (pc' := 2) rfl rfl rfl ?_
  refine own_getF X0 hx hZ hown (hw _ (List.mem_of_getElem? (i := 21) rfl)) Via.refl e0 F_from_q1 (hb hby d6_2) (pc' := 5) rfl (fun T7 X7 e7 => ?_)
  refine own_lcmp X7 hx (hb hby d6_5) (pc' := 6) rfl ?_
  by_cases hc8 : q2 < w_from_q1
  · refine own_ifYes X7 hx (hb hby d6_6) ((if0 _ _).trans (tlt (own_lc_lt.mpr hc8)).1) (pc' := 22) (by decide) (by decide) ?_
    refine own_iconst X7 hx (hb hby d6_22) (pc' := 23) rfl (v := (0 : Int32)) rfl ?_
    refine own_retN X7 hx (t := .boolean) hret (by simp) hlk (hb hby d6_23) (by decide) (by decide) ?_
    show own_P _ _ _ _ T7.heap _
    exact ⟨(congrArg some (congrArg Value.int (show _ = (own_f6 q2 w_from_q1 w_until_q1) from by rw [own_f6, if_pos hc8]; rfl))), N0, e7⟩
  · refine own_ifNo X7 hx (hb hby d6_6) (pc' := 9) rfl ((if0 _ _).trans (flt (mt own_lc_lt.mp hc8)).1) ?_
    refine own_lloadN X7 hx (hb hby d6_9) (pc' := 10) rfl rfl ?_
    refine own_aloadN X7 hx (hb hby d6_10) (pc' := 11) rfl rfl rfl ?_
    refine own_getF X7 hx hZ hown (hw _ (List.mem_of_getElem? (i := 23) rfl)) Via.refl e7 F_until_q1 (hb hby d6_11) (pc' := 14) rfl (fun T9 X9 e9 => ?_)
    refine own_lcmp X9 hx (hb hby d6_14) (pc' := 15) rfl ?_
    by_cases hc10 : q2 < w_until_q1
    · refine own_ifNo X9 hx (hb hby d6_15) (pc' := 18) rfl ((if0 _ _).trans (tlt (own_lc_lt.mpr hc10)).2.1) ?_
      refine own_iconst X9 hx (hb hby d6_18) (pc' := 19) rfl (v := (1 : Int32)) rfl ?_
      refine own_goto X9 hx (hb hby d6_19) (pc' := 23) (by decide) (by decide) ?_
      refine own_retN X9 hx (t := .boolean) hret (by simp) hlk (hb hby d6_23) (by decide) (by decide) ?_
      show own_P _ _ _ _ T9.heap _
      exact ⟨(congrArg some (congrArg Value.int (show _ = (own_f6 q2 w_from_q1 w_until_q1) from by rw [own_f6, if_neg hc8, if_pos hc10]; rfl))), N0, e9⟩
    · refine own_ifYes X9 hx (hb hby d6_15) ((if0 _ _).trans (flt (mt own_lc_lt.mp hc10)).2.1) (pc' := 22) (by decide) (by decide) ?_
      refine own_iconst X9 hx (hb hby d6_22) (pc' := 23) rfl (v := (0 : Int32)) rfl ?_
      refine own_retN X9 hx (t := .boolean) hret (by simp) hlk (hb hby d6_23) (by decide) (by decide) ?_
      show own_P _ _ _ _ T9.heap _
      exact ⟨(congrArg some (congrArg Value.int (show _ = (own_f6 q2 w_from_q1 w_until_q1) from by rw [own_f6, if_neg hc8, if_neg hc10]; rfl))), N0, e9⟩
theorem ef_6 (m : MethodId) (q1 : Addr) (q2 : Int64) : entryFrame m #[(.ref q1), (.long q2)] 3 = mkF m 0 #[.val (.ref q1), .val (.long q2), .second] [] := by first | (simp [entryFrame, mkF, argsToLocals, Value.category]; done) | rfl
set_option maxRecDepth 65536 in
set_option maxHeartbeats 40000000 in
theorem rm6 (l : Launch) (Z : State) (a0 : Array Value) (hw : ∀ d ∈ tables_1, d.before a0 Z = true) (ws : List Jvm.Cond) (q1 : Addr) (q2 : Int64) (w_from_q1 : Int64) (w_until_q1 : Int64) (h0 : Heap) (n0 : Nat) (Z0 : n0 ≤ h0.size) (E_q1 : Exa Z h0 q1 "StandInLedger$Silence") (F_from_q1 : Fld Z h0 q1 "StandInLedger$Silence" "from" "J" (.long w_from_q1)) (F_until_q1 : Fld Z h0 q1 "StandInLedger$Silence" "until" "J" (.long w_until_q1)) :
    MetFree l (⟨"StandInLedger$Silence", "covers", "(J)Z"⟩ : MethodName) (head1 (Jvm.Cond.code (⟨"StandInLedger$Silence", "covers", "(J)Z"⟩ : MethodName) prog_24_method_3_code 3 (some .boolean) :: ws) ({ frames := 0, cells := 0, slots := 0, locals := 0 } : Room)) (fun a U => a = #[(.ref q1), (.long q2)] ∧ Z.Warmed39 U.vm ∧ U.heap = h0) (fun _ _ _ _ _ => True) (fun _ U o U' => ∃ v L, o = .returned v ∧ (own_P h0 n0 (some (.int (own_f6 q2 w_from_q1 w_until_q1)))) v U'.heap L ∧ FrameEnd U o U' L ({ frames := 0, cells := 0, slots := 0, locals := 0 } : Room).cells ({ frames := 0, cells := 0, slots := 0, locals := 0 } : Room).slots) := by
  refine MetFree.of_bodySF (plainFor_of_name pn_6) hisR ?_
  intro p e s m args below meth c s₁ Bd hml0 hP hK
  obtain ⟨rfl, hZ, hh⟩ := hP
  have hown : s.vm.findClass "StandInLedger$Silence" = some m.cls := findClass_of_methodNamed Bd.named
  have hnm := (name_of_methodNamed Bd.named Bd.method).1
  have X0 : Stand p l e ({ frames := 0, cells := 0, slots := 0, locals := 0 } : Room) s m #[(.ref q1), (.long q2)] below meth c s₁ [] 0 0 := Stand.of_body Bd
  have e0 : s₁.heap = h0 := by rw [← hh, Bd.state]; rfl
  have H := sg6_0 l hw Bd.exec hZ Bd.bytes hml0 hown hnm Bd.returns Bd.notSynchronized q1 q2 w_from_q1 w_until_q1 Z0 X0 (Fr.nil n0) e0 E_q1 F_from_q1 F_until_q1
  obtain ⟨t, h1, h2, o, h3, h4⟩ := H
  exact ⟨t, o, castTop (ef_6 m q1 q2) h1, h2, h3, h4⟩
theorem pn_0 : plainName "SilenceCoversPinLaw" = true := by first | (simp [plainName, overriddenIn]; done) | decide +kernel
def own_f0_325 (v1 : Int64) (v2 : Int64) (v3 : Int64) (v4 : Int64) (v5 : Int32) (v6 : Int64) (v7 : Int64) (v8 : Int64) (v9 : Int32) (v10 : Int64) (v11 : Int64) (v16 : Int32) (v17 : Int32) (v18 : Int32) (v19 : Int32) (v20 : Int32) (v21 : Int32) (v22 : Int32) (v23 : Int32) (v24 : Int32) (v25 : Int32) : Int32 :=
  if v20 = (0 : Int32) then (0 : Int32) else
  if v21 = (0 : Int32) then (0 : Int32) else
  if v22 = (0 : Int32) then (0 : Int32) else
  if v23 = (0 : Int32) then (0 : Int32) else
  if v24 = (0 : Int32) then (0 : Int32) else
  if v25 = (0 : Int32) then (0 : Int32) else
  (1 : Int32)
def own_f0_297 (v1 : Int64) (v2 : Int64) (v3 : Int64) (v4 : Int64) (v5 : Int32) (v6 : Int64) (v7 : Int64) (v8 : Int64) (v9 : Int32) (v10 : Int64) (v11 : Int64) (v16 : Int32) (v17 : Int32) (v18 : Int32) (v19 : Int32) (v20 : Int32) (v21 : Int32) (v22 : Int32) (v23 : Int32) (v24 : Int32) : Int32 :=
  if v16 = (0 : Int32) then (own_f0_325 v1 v2 v3 v4 v5 v6 v7 v8 v9 v10 v11 v16 v17 v18 v19 v20 v21 v22 v23 v24 (1 : Int32)) else
  if v11 < v6 then (own_f0_325 v1 v2 v3 v4 v5 v6 v7 v8 v9 v10 v11 v16 v17 v18 v19 v20 v21 v22 v23 v24 (0 : Int32)) else
  if v11 < v7 then (own_f0_325 v1 v2 v3 v4 v5 v6 v7 v8 v9 v10 v11 v16 v17 v18 v19 v20 v21 v22 v23 v24 (1 : Int32)) else
  (own_f0_325 v1 v2 v3 v4 v5 v6 v7 v8 v9 v10 v11 v16 v17 v18 v19 v20 v21 v22 v23 v24 (0 : Int32))
def own_f0_285 (v1 : Int64) (v2 : Int64) (v3 : Int64) (v4 : Int64) (v5 : Int32) (v6 : Int64) (v7 : Int64) (v8 : Int64) (v9 : Int32) (v10 : Int64) (v11 : Int64) (v16 : Int32) (v17 : Int32) (v18 : Int32) (v19 : Int32) (v20 : Int32) (v21 : Int32) (v22 : Int32) (v23 : Int32) : Int32 :=
  if v19 = (0 : Int32) then (own_f0_297 v1 v2 v3 v4 v5 v6 v7 v8 v9 v10 v11 v16 v17 v18 v19 v20 v21 v22 v23 (1 : Int32)) else
  (own_f0_297 v1 v2 v3 v4 v5 v6 v7 v8 v9 v10 v11 v16 v17 v18 v19 v20 v21 v22 v23 (0 : Int32))
def own_f0_268 (v1 : Int64) (v2 : Int64) (v3 : Int64) (v4 : Int64) (v5 : Int32) (v6 : Int64) (v7 : Int64) (v8 : Int64) (v9 : Int32) (v10 : Int64) (v11 : Int64) (v16 : Int32) (v17 : Int32) (v18 : Int32) (v19 : Int32) (v20 : Int32) (v21 : Int32) (v22 : Int32) : Int32 :=
  if v17 = (0 : Int32) then (own_f0_285 v1 v2 v3 v4 v5 v6 v7 v8 v9 v10 v11 v16 v17 v18 v19 v20 v21 v22 (1 : Int32)) else
  if v18 = (0 : Int32) then (own_f0_285 v1 v2 v3 v4 v5 v6 v7 v8 v9 v10 v11 v16 v17 v18 v19 v20 v21 v22 (1 : Int32)) else
  (own_f0_285 v1 v2 v3 v4 v5 v6 v7 v8 v9 v10 v11 v16 v17 v18 v19 v20 v21 v22 (0 : Int32))
def own_f0_241 (v1 : Int64) (v2 : Int64) (v3 : Int64) (v4 : Int64) (v5 : Int32) (v6 : Int64) (v7 : Int64) (v8 : Int64) (v9 : Int32) (v10 : Int64) (v11 : Int64) (v16 : Int32) (v17 : Int32) (v18 : Int32) (v19 : Int32) (v20 : Int32) (v21 : Int32) : Int32 :=
  if v17 = (0 : Int32) then (if v18 = (0 : Int32) then (if v16 = (0 : Int32) then (own_f0_268 v1 v2 v3 v4 v5 v6 v7 v8 v9 v10 v11 v16 v17 v18 v19 v20 v21 (1 : Int32)) else
    (own_f0_268 v1 v2 v3 v4 v5 v6 v7 v8 v9 v10 v11 v16 v17 v18 v19 v20 v21 (0 : Int32))) else
    if v16 = (1 : Int32) then (own_f0_268 v1 v2 v3 v4 v5 v6 v7 v8 v9 v10 v11 v16 v17 v18 v19 v20 v21 (1 : Int32)) else
    (own_f0_268 v1 v2 v3 v4 v5 v6 v7 v8 v9 v10 v11 v16 v17 v18 v19 v20 v21 (0 : Int32))) else
  if v16 = (1 : Int32) then (own_f0_268 v1 v2 v3 v4 v5 v6 v7 v8 v9 v10 v11 v16 v17 v18 v19 v20 v21 (1 : Int32)) else
  (own_f0_268 v1 v2 v3 v4 v5 v6 v7 v8 v9 v10 v11 v16 v17 v18 v19 v20 v21 (0 : Int32))
def own_f0_106 (v1 : Int64) (v2 : Int64) (v3 : Int64) (v4 : Int64) (v5 : Int32) (v6 : Int64) (v7 : Int64) (v8 : Int64) (v9 : Int32) (v10 : Int64) (v11 : Int64) : Int32 :=
  if (own_f6 v7 v6 v7) = (0 : Int32) then (if v6 < v7 then (if (own_f6 v6 v6 v7) = (1 : Int32) then (own_f0_241 v1 v2 v3 v4 v5 v6 v7 v8 v9 v10 v11 (own_f6 v11 v6 v7) (own_f6 v11 v6 v8) (own_f6 v11 v8 v7) (own_f6 v11 v8 v8) (1 : Int32) (1 : Int32)) else
    (own_f0_241 v1 v2 v3 v4 v5 v6 v7 v8 v9 v10 v11 (own_f6 v11 v6 v7) (own_f6 v11 v6 v8) (own_f6 v11 v8 v7) (own_f6 v11 v8 v8) (1 : Int32) (0 : Int32))) else
    if (own_f6 v6 v6 v7) = (0 : Int32) then (own_f0_241 v1 v2 v3 v4 v5 v6 v7 v8 v9 v10 v11 (own_f6 v11 v6 v7) (own_f6 v11 v6 v8) (own_f6 v11 v8 v7) (own_f6 v11 v8 v8) (1 : Int32) (1 : Int32)) else
    (own_f0_241 v1 v2 v3 v4 v5 v6 v7 v8 v9 v10 v11 (own_f6 v11 v6 v7) (own_f6 v11 v6 v8) (own_f6 v11 v8 v7) (own_f6 v11 v8 v8) (1 : Int32) (0 : Int32))) else
  if v6 < v7 then (if (own_f6 v6 v6 v7) = (1 : Int32) then (own_f0_241 v1 v2 v3 v4 v5 v6 v7 v8 v9 v10 v11 (own_f6 v11 v6 v7) (own_f6 v11 v6 v8) (own_f6 v11 v8 v7) (own_f6 v11 v8 v8) (0 : Int32) (1 : Int32)) else
    (own_f0_241 v1 v2 v3 v4 v5 v6 v7 v8 v9 v10 v11 (own_f6 v11 v6 v7) (own_f6 v11 v6 v8) (own_f6 v11 v8 v7) (own_f6 v11 v8 v8) (0 : Int32) (0 : Int32))) else
  if (own_f6 v6 v6 v7) = (0 : Int32) then (own_f0_241 v1 v2 v3 v4 v5 v6 v7 v8 v9 v10 v11 (own_f6 v11 v6 v7) (own_f6 v11 v6 v8) (own_f6 v11 v8 v7) (own_f6 v11 v8 v8) (0 : Int32) (1 : Int32)) else
  (own_f0_241 v1 v2 v3 v4 v5 v6 v7 v8 v9 v10 v11 (own_f6 v11 v6 v7) (own_f6 v11 v6 v8) (own_f6 v11 v8 v7) (own_f6 v11 v8 v8) (0 : Int32) (0 : Int32))
def own_f0 (q1 : Int64) (q2 : Int64) (q3 : Int64) (q4 : Int64) (q5 : Int32) : Int32 :=
  if (q5 &&& (3 : Int32)) = (0 : Int32) then (own_f0_106 q1 q2 q3 q4 q5 (own_f1 q1 (own_f1 q2 q3)) (own_f2 q1 (own_f2 q2 q3)) ((((q1 + q2) + q3) - (own_f1 q1 (own_f1 q2 q3))) - (own_f2 q1 (own_f2 q2 q3))) (q5 &&& (3 : Int32)) ((((own_ush32 q5 (2 : Int32)) - ((own_ush32 q5 (2 : Int32)) / (5 : Int32)) * (5 : Int32)) - (2 : Int32)).toInt64) q4) else
  if (q5 &&& (3 : Int32)) = (1 : Int32) then (own_f0_106 q1 q2 q3 q4 q5 (own_f1 q1 (own_f1 q2 q3)) (own_f2 q1 (own_f2 q2 q3)) ((((q1 + q2) + q3) - (own_f1 q1 (own_f1 q2 q3))) - (own_f2 q1 (own_f2 q2 q3))) (q5 &&& (3 : Int32)) ((((own_ush32 q5 (2 : Int32)) - ((own_ush32 q5 (2 : Int32)) / (5 : Int32)) * (5 : Int32)) - (2 : Int32)).toInt64) ((own_f1 q1 (own_f1 q2 q3)) + ((((own_ush32 q5 (2 : Int32)) - ((own_ush32 q5 (2 : Int32)) / (5 : Int32)) * (5 : Int32)) - (2 : Int32)).toInt64))) else
  if (q5 &&& (3 : Int32)) = (2 : Int32) then (own_f0_106 q1 q2 q3 q4 q5 (own_f1 q1 (own_f1 q2 q3)) (own_f2 q1 (own_f2 q2 q3)) ((((q1 + q2) + q3) - (own_f1 q1 (own_f1 q2 q3))) - (own_f2 q1 (own_f2 q2 q3))) (q5 &&& (3 : Int32)) ((((own_ush32 q5 (2 : Int32)) - ((own_ush32 q5 (2 : Int32)) / (5 : Int32)) * (5 : Int32)) - (2 : Int32)).toInt64) (((((q1 + q2) + q3) - (own_f1 q1 (own_f1 q2 q3))) - (own_f2 q1 (own_f2 q2 q3))) + ((((own_ush32 q5 (2 : Int32)) - ((own_ush32 q5 (2 : Int32)) / (5 : Int32)) * (5 : Int32)) - (2 : Int32)).toInt64))) else
  (own_f0_106 q1 q2 q3 q4 q5 (own_f1 q1 (own_f1 q2 q3)) (own_f2 q1 (own_f2 q2 q3)) ((((q1 + q2) + q3) - (own_f1 q1 (own_f1 q2 q3))) - (own_f2 q1 (own_f2 q2 q3))) (q5 &&& (3 : Int32)) ((((own_ush32 q5 (2 : Int32)) - ((own_ush32 q5 (2 : Int32)) / (5 : Int32)) * (5 : Int32)) - (2 : Int32)).toInt64) ((own_f2 q1 (own_f2 q2 q3)) + ((((own_ush32 q5 (2 : Int32)) - ((own_ush32 q5 (2 : Int32)) / (5 : Int32)) * (5 : Int32)) - (2 : Int32)).toInt64)))
set_option maxRecDepth 65536 in
set_option maxHeartbeats 40000000 in
theorem sg0_325 {p : Program} (l : Launch) {e : Env} {s : State} {m : MethodId} {args : Array Value} {below : List Frame} {meth : Method} {c : Code} {Z : State} {a0 : Array Value} (hw : ∀ d ∈ tables_1, d.before a0 Z = true) (hx : p.tables.exec = Jvm.exec) (hZ : Z.Warmed39 s.vm) (hby : c.code = code) (hml : c.maxLocals = 34) (hown : s.vm.findClass "SilenceCoversPinLaw" = some m.cls) (hnm : meth.name = "law") (hret : meth.sig.returnType = (some .boolean)) (hlk : meth.locks = false) (v1 : Int64) (v2 : Int64) (v3 : Int64) (v4 : Int64) (v5 : Int32) (v6 : Int64) (v7 : Int64) (v8 : Int64) (v9 : Int32) (v10 : Int64) (v11 : Int64) (v12 : Addr) (v13 : Addr) (v14 : Addr) (v15 : Addr) (v16 : Int32) (v17 : Int32) (v18 : Int32) (v19 : Int32) (v20 : Int32) (v21 : Int32) (v22 : Int32) (v23 : Int32) (v24 : Int32) (v25 : Int32) {h0 : Heap} {n0 : Nat} (Z0 : n0 ≤ h0.size) {T0 : State} {L0 : List Loc} (X0 : Stand p l e room_1 s m args below meth c T0 L0 4 8) (N0 : Fr n0 L0) (e0 : T0.heap = h0)  :
    own_Fin p.tables e below (own_End below s (own_L n0 (.int (own_f0_325 v1 v2 v3 v4 v5 v6 v7 v8 v9 v10 v11 v16 v17 v18 v19 v20 v21 v22 v23 v24 v25))) 4 8) T0 (mkF m 325 #[.val (.long v1), .second, .val (.long v2), .second, .val (.long v3), .second, .val (.long v4), .second, .val (.int v5), .val (.long v6), .second, .val (.long v7), .second, .val (.long v8), .second, .val (.int v9), .val (.long v10), .second, .val (.long v11), .second, .val (.ref v12), .val (.ref v13), .val (.ref v14), .val (.ref v15), .val (.int v16), .val (.int v17), .val (.int v18), .val (.int v19), .val (.int v20), .val (.int v21), .val (.int v22), .val (.int v23), .val (.int v24), .val (.int v25)] []) := by
  refine own_iload X0 hx (hb hby at_325) (pc' := 327) rfl rfl ?_
  by_cases hc51 : v20 = (0 : Int32)
  · refine own_ifYes X0 hx (hb hby at_327) ((if0 _ _).trans (teq hc51).1) (pc' := 359) (by decide) (by decide) ?_
    refine own_iconst X0 hx (hb hby at_359) (pc' := 360) rfl (v := (0 : Int32)) rfl ?_
    refine own_retN X0 hx (t := .boolean) hret (by simp) hlk (hb hby at_360) (by decide) (by decide) ?_
    exact ⟨(congrArg some (congrArg Value.int (show _ = (own_f0_325 v1 v2 v3 v4 v5 v6 v7 v8 v9 v10 v11 v16 v17 v18 v19 v20 v21 v22 v23 v24 v25) from by rw [own_f0_325, if_pos hc51]; rfl))), N0⟩
  · refine own_ifNo X0 hx (hb hby at_327) (pc' := 330) rfl ((if0 _ _).trans (feq hc51).1) ?_
    refine own_iload X0 hx (hb hby at_330) (pc' := 332) rfl rfl ?_
    by_cases hc52 : v21 = (0 : Int32)
    · refine own_ifYes X0 hx (hb hby at_332) ((if0 _ _).trans (teq hc52).1) (pc' := 359) (by decide) (by decide) ?_
      refine own_iconst X0 hx (hb hby at_359) (pc' := 360) rfl (v := (0 : Int32)) rfl ?_
      refine own_retN X0 hx (t := .boolean) hret (by simp) hlk (hb hby at_360) (by decide) (by decide) ?_
      exact ⟨(congrArg some (congrArg Value.int (show _ = (own_f0_325 v1 v2 v3 v4 v5 v6 v7 v8 v9 v10 v11 v16 v17 v18 v19 v20 v21 v22 v23 v24 v25) from by rw [own_f0_325, if_neg hc51, if_pos hc52]; rfl))), N0⟩
    · refine own_ifNo X0 hx (hb hby at_332) (pc' := 335) rfl ((if0 _ _).trans (feq hc52).1) ?_
      refine own_iload X0 hx (hb hby at_335) (pc' := 337) rfl rfl ?_
      by_cases hc53 : v22 = (0 : Int32)
      · refine own_ifYes X0 hx (hb hby at_337) ((if0 _ _).trans (teq hc53).1) (pc' := 359) (by decide) (by decide) ?_
        refine own_iconst X0 hx (hb hby at_359) (pc' := 360) rfl (v := (0 : Int32)) rfl ?_
        refine own_retN X0 hx (t := .boolean) hret (by simp) hlk (hb hby at_360) (by decide) (by decide) ?_
        exact ⟨(congrArg some (congrArg Value.int (show _ = (own_f0_325 v1 v2 v3 v4 v5 v6 v7 v8 v9 v10 v11 v16 v17 v18 v19 v20 v21 v22 v23 v24 v25) from by rw [own_f0_325, if_neg hc51, if_neg hc52, if_pos hc53]; rfl))), N0⟩
      · refine own_ifNo X0 hx (hb hby at_337) (pc' := 340) rfl ((if0 _ _).trans (feq hc53).1) ?_
        refine own_iload X0 hx (hb hby at_340) (pc' := 342) rfl rfl ?_
        by_cases hc54 : v23 = (0 : Int32)
        · refine own_ifYes X0 hx (hb hby at_342) ((if0 _ _).trans (teq hc54).1) (pc' := 359) (by decide) (by decide) ?_
          refine own_iconst X0 hx (hb hby at_359) (pc' := 360) rfl (v := (0 : Int32)) rfl ?_
          refine own_retN X0 hx (t := .boolean) hret (by simp) hlk (hb hby at_360) (by decide) (by decide) ?_
          exact ⟨(congrArg some (congrArg Value.int (show _ = (own_f0_325 v1 v2 v3 v4 v5 v6 v7 v8 v9 v10 v11 v16 v17 v18 v19 v20 v21 v22 v23 v24 v25) from by rw [own_f0_325, if_neg hc51, if_neg hc52, if_neg hc53, if_pos hc54]; rfl))), N0⟩
        · refine own_ifNo X0 hx (hb hby at_342) (pc' := 345) rfl ((if0 _ _).trans (feq hc54).1) ?_
          refine own_iload X0 hx (hb hby at_345) (pc' := 347) rfl rfl ?_
          by_cases hc55 : v24 = (0 : Int32)
          · refine own_ifYes X0 hx (hb hby at_347) ((if0 _ _).trans (teq hc55).1) (pc' := 359) (by decide) (by decide) ?_
            refine own_iconst X0 hx (hb hby at_359) (pc' := 360) rfl (v := (0 : Int32)) rfl ?_
            refine own_retN X0 hx (t := .boolean) hret (by simp) hlk (hb hby at_360) (by decide) (by decide) ?_
            exact ⟨(congrArg some (congrArg Value.int (show _ = (own_f0_325 v1 v2 v3 v4 v5 v6 v7 v8 v9 v10 v11 v16 v17 v18 v19 v20 v21 v22 v23 v24 v25) from by rw [own_f0_325, if_neg hc51, if_neg hc52, if_neg hc53, if_neg hc54, if_pos hc55]; rfl))), N0⟩
          · refine own_ifNo X0 hx (hb hby at_347) (pc' := 350) rfl ((if0 _ _).trans (feq hc55).1) ?_
            refine own_iload X0 hx (hb hby at_350) (pc' := 352) rfl rfl ?_
            by_cases hc56 : v25 = (0 : Int32)
            · refine own_ifYes X0 hx (hb hby at_352) ((if0 _ _).trans (teq hc56).1) (pc' := 359) (by decide) (by decide) ?_
              refine own_iconst X0 hx (hb hby at_359) (pc' := 360) rfl (v := (0 : Int32)) rfl ?_
              refine own_retN X0 hx (t := .boolean) hret (by simp) hlk (hb hby at_360) (by decide) (by decide) ?_
              exact ⟨(congrArg some (congrArg Value.int (show _ = (own_f0_325 v1 v2 v3 v4 v5 v6 v7 v8 v9 v10 v11 v16 v17 v18 v19 v20 v21 v22 v23 v24 v25) from by rw [own_f0_325, if_neg hc51, if_neg hc52, if_neg hc53, if_neg hc54, if_neg hc55, if_pos hc56]; rfl))), N0⟩
            · refine own_ifNo X0 hx (hb hby at_352) (pc' := 355) rfl ((if0 _ _).trans (feq hc56).1) ?_
              refine own_iconst X0 hx (hb hby at_355) (pc' := 356) rfl (v := (1 : Int32)) rfl ?_
              refine own_goto X0 hx (hb hby at_356) (pc' := 360) (by decide) (by decide) ?_
              refine own_retN X0 hx (t := .boolean) hret (by simp) hlk (hb hby at_360) (by decide) (by decide) ?_
              exact ⟨(congrArg some (congrArg Value.int (show _ = (own_f0_325 v1 v2 v3 v4 v5 v6 v7 v8 v9 v10 v11 v16 v17 v18 v19 v20 v21 v22 v23 v24 v25) from by rw [own_f0_325, if_neg hc51, if_neg hc52, if_neg hc53, if_neg hc54, if_neg hc55, if_neg hc56]; rfl))), N0⟩
set_option maxRecDepth 65536 in
set_option maxHeartbeats 40000000 in
theorem sg0_297 {p : Program} (l : Launch) {e : Env} {s : State} {m : MethodId} {args : Array Value} {below : List Frame} {meth : Method} {c : Code} {Z : State} {a0 : Array Value} (hw : ∀ d ∈ tables_1, d.before a0 Z = true) (hx : p.tables.exec = Jvm.exec) (hZ : Z.Warmed39 s.vm) (hby : c.code = code) (hml : c.maxLocals = 34) (hown : s.vm.findClass "SilenceCoversPinLaw" = some m.cls) (hnm : meth.name = "law") (hret : meth.sig.returnType = (some .boolean)) (hlk : meth.locks = false) (v1 : Int64) (v2 : Int64) (v3 : Int64) (v4 : Int64) (v5 : Int32) (v6 : Int64) (v7 : Int64) (v8 : Int64) (v9 : Int32) (v10 : Int64) (v11 : Int64) (v12 : Addr) (v13 : Addr) (v14 : Addr) (v15 : Addr) (v16 : Int32) (v17 : Int32) (v18 : Int32) (v19 : Int32) (v20 : Int32) (v21 : Int32) (v22 : Int32) (v23 : Int32) (v24 : Int32) {h0 : Heap} {n0 : Nat} (Z0 : n0 ≤ h0.size) {T0 : State} {L0 : List Loc} (X0 : Stand p l e room_1 s m args below meth c T0 L0 4 8) (N0 : Fr n0 L0) (e0 : T0.heap = h0)  :
    own_Fin p.tables e below (own_End below s (own_L n0 (.int (own_f0_297 v1 v2 v3 v4 v5 v6 v7 v8 v9 v10 v11 v16 v17 v18 v19 v20 v21 v22 v23 v24))) 4 8) T0 (mkF m 297 #[.val (.long v1), .second, .val (.long v2), .second, .val (.long v3), .second, .val (.long v4), .second, .val (.int v5), .val (.long v6), .second, .val (.long v7), .second, .val (.long v8), .second, .val (.int v9), .val (.long v10), .second, .val (.long v11), .second, .val (.ref v12), .val (.ref v13), .val (.ref v14), .val (.ref v15), .val (.int v16), .val (.int v17), .val (.int v18), .val (.int v19), .val (.int v20), .val (.int v21), .val (.int v22), .val (.int v23), .val (.int v24), .unset] []) := by
  refine own_iload X0 hx (hb hby at_297) (pc' := 299) rfl rfl ?_
  by_cases hc48 : v16 = (0 : Int32)
  · refine own_ifYes X0 hx (hb hby at_299) ((if0 _ _).trans (teq hc48).1) (pc' := 318) (by decide) (by decide) ?_
    refine own_iconst X0 hx (hb hby at_318) (pc' := 319) rfl (v := (1 : Int32)) rfl ?_
    refine own_goto X0 hx (hb hby at_319) (pc' := 323) (by decide) (by decide) ?_
    refine own_istore X0 hx (hb hby at_323) (pc' := 325) rfl (Ls' := #[.val (.long v1), .second, .val (.long v2), .second, .val (.long v3), .second, .val (.long v4), .second, .val (.int v5), .val (.long v6), .second, .val (.long v7), .second, .val (.long v8), .second, .val (.int v9), .val (.long v10), .second, .val (.long v11), .second, .val (.ref v12), .val (.ref v13), .val (.ref v14), .val (.ref v15), .val (.int v16), .val (.int v17), .val (.int v18), .val (.int v19), .val (.int v20), .val (.int v21), .val (.int v22), .val (.int v23), .val (.int v24), .val (.int (1 : Int32))]) rfl ?_
    refine own_cast ?_ (sg0_325 l hw hx hZ hby hml hown hnm hret hlk v1 v2 v3 v4 v5 v6 v7 v8 v9 v10 v11 v12 v13 v14 v15 v16 v17 v18 v19 v20 v21 v22 v23 v24 (1 : Int32) Z0 X0 N0 e0)
    rw [own_f0_297, if_pos hc48]
  · refine own_ifNo X0 hx (hb hby at_299) (pc' := 302) rfl ((if0 _ _).trans (feq hc48).1) ?_
    refine own_lload X0 hx (hb hby at_302) (pc' := 304) rfl rfl ?_
    refine own_lload X0 hx (hb hby at_304) (pc' := 306) rfl rfl ?_
    refine own_lcmp X0 hx (hb hby at_306) (pc' := 307) rfl ?_
    by_cases hc49 : v11 < v6
    · refine own_ifYes X0 hx (hb hby at_307) ((if0 _ _).trans (tlt (own_lc_gt.mpr hc49)).2.2.1) (pc' := 322) (by decide) (by decide) ?_
      refine own_iconst X0 hx (hb hby at_322) (pc' := 323) rfl (v := (0 : Int32)) rfl ?_
      refine own_istore X0 hx (hb hby at_323) (pc' := 325) rfl (Ls' := #[.val (.long v1), .second, .val (.long v2), .second, .val (.long v3), .second, .val (.long v4), .second, .val (.int v5), .val (.long v6), .second, .val (.long v7), .second, .val (.long v8), .second, .val (.int v9), .val (.long v10), .second, .val (.long v11), .second, .val (.ref v12), .val (.ref v13), .val (.ref v14), .val (.ref v15), .val (.int v16), .val (.int v17), .val (.int v18), .val (.int v19), .val (.int v20), .val (.int v21), .val (.int v22), .val (.int v23), .val (.int v24), .val (.int (0 : Int32))]) rfl ?_
      refine own_cast ?_ (sg0_325 l hw hx hZ hby hml hown hnm hret hlk v1 v2 v3 v4 v5 v6 v7 v8 v9 v10 v11 v12 v13 v14 v15 v16 v17 v18 v19 v20 v21 v22 v23 v24 (0 : Int32) Z0 X0 N0 e0)
      rw [own_f0_297, if_neg hc48, if_pos hc49]
    · refine own_ifNo X0 hx (hb hby at_307) (pc' := 310) rfl ((if0 _ _).trans (flt (mt own_lc_gt.mp hc49)).2.2.1) ?_
      refine own_lload X0 hx (hb hby at_310) (pc' := 312) rfl rfl ?_
      refine own_lload X0 hx (hb hby at_312) (pc' := 314) rfl rfl ?_
      refine own_lcmp X0 hx (hb hby at_314) (pc' := 315) rfl ?_
      by_cases hc50 : v11 < v7
      · refine own_ifNo X0 hx (hb hby at_315) (pc' := 318) rfl ((if0 _ _).trans (tlt (own_lc_lt.mpr hc50)).2.1) ?_
        refine own_iconst X0 hx (hb hby at_318) (pc' := 319) rfl (v := (1 : Int32)) rfl ?_
        refine own_goto X0 hx (hb hby at_319) (pc' := 323) (by decide) (by decide) ?_
        refine own_istore X0 hx (hb hby at_323) (pc' := 325) rfl (Ls' := #[.val (.long v1), .second, .val (.long v2), .second, .val (.long v3), .second, .val (.long v4), .second, .val (.int v5), .val (.long v6), .second, .val (.long v7), .second, .val (.long v8), .second, .val (.int v9), .val (.long v10), .second, .val (.long v11), .second, .val (.ref v12), .val (.ref v13), .val (.ref v14), .val (.ref v15), .val (.int v16), .val (.int v17), .val (.int v18), .val (.int v19), .val (.int v20), .val (.int v21), .val (.int v22), .val (.int v23), .val (.int v24), .val (.int (1 : Int32))]) rfl ?_
        refine own_cast ?_ (sg0_325 l hw hx hZ hby hml hown hnm hret hlk v1 v2 v3 v4 v5 v6 v7 v8 v9 v10 v11 v12 v13 v14 v15 v16 v17 v18 v19 v20 v21 v22 v23 v24 (1 : Int32) Z0 X0 N0 e0)
        rw [own_f0_297, if_neg hc48, if_neg hc49, if_pos hc50]
      · refine own_ifYes X0 hx (hb hby at_315) ((if0 _ _).trans (flt (mt own_lc_lt.mp hc50)).2.1) (pc' := 322) (by decide) (by decide) ?_
        refine own_iconst X0 hx (hb hby at_322) (pc' := 323) rfl (v := (0 : Int32)) rfl ?_
        refine own_istore X0 hx (hb hby at_323) (pc' := 325) rfl (Ls' := #[.val (.long v1), .second, .val (.long v2), .second, .val (.long v3), .second, .val (.long v4), .second, .val (.int v5), .val (.long v6), .second, .val (.long v7), .second, .val (.long v8), .second, .val (.int v9), .val (.long v10), .second, .val (.long v11), .second, .val (.ref v12), .val (.ref v13), .val (.ref v14), .val (.ref v15), .val (.int v16), .val (.int v17), .val (.int v18), .val (.int v19), .val (.int v20), .val (.int v21), .val (.int v22), .val (.int v23), .val (.int v24), .val (.int (0 : Int32))]) rfl ?_
        refine own_cast ?_ (sg0_325 l hw hx hZ hby hml hown hnm hret hlk v1 v2 v3 v4 v5 v6 v7 v8 v9 v10 v11 v12 v13 v14 v15 v16 v17 v18 v19 v20 v21 v22 v23 v24 (0 : Int32) Z0 X0 N0 e0)
        rw [own_f0_297, if_neg hc48, if_neg hc49, if_neg hc50]
set_option maxRecDepth 65536 in
set_option maxHeartbeats 40000000 in
theorem sg0_285 {p : Program} (l : Launch) {e : Env} {s : State} {m : MethodId} {args : Array Value} {below : List Frame} {meth : Method} {c : Code} {Z : State} {a0 : Array Value} (hw : ∀ d ∈ tables_1, d.before a0 Z = true) (hx : p.tables.exec = Jvm.exec) (hZ : Z.Warmed39 s.vm) (hby : c.code = code) (hml : c.maxLocals = 34) (hown : s.vm.findClass "SilenceCoversPinLaw" = some m.cls) (hnm : meth.name = "law") (hret : meth.sig.returnType = (some .boolean)) (hlk : meth.locks = false) (v1 : Int64) (v2 : Int64) (v3 : Int64) (v4 : Int64) (v5 : Int32) (v6 : Int64) (v7 : Int64) (v8 : Int64) (v9 : Int32) (v10 : Int64) (v11 : Int64) (v12 : Addr) (v13 : Addr) (v14 : Addr) (v15 : Addr) (v16 : Int32) (v17 : Int32) (v18 : Int32) (v19 : Int32) (v20 : Int32) (v21 : Int32) (v22 : Int32) (v23 : Int32) {h0 : Heap} {n0 : Nat} (Z0 : n0 ≤ h0.size) {T0 : State} {L0 : List Loc} (X0 : Stand p l e room_1 s m args below meth c T0 L0 4 8) (N0 : Fr n0 L0) (e0 : T0.heap = h0)  :
    own_Fin p.tables e below (own_End below s (own_L n0 (.int (own_f0_285 v1 v2 v3 v4 v5 v6 v7 v8 v9 v10 v11 v16 v17 v18 v19 v20 v21 v22 v23))) 4 8) T0 (mkF m 285 #[.val (.long v1), .second, .val (.long v2), .second, .val (.long v3), .second, .val (.long v4), .second, .val (.int v5), .val (.long v6), .second, .val (.long v7), .second, .val (.long v8), .second, .val (.int v9), .val (.long v10), .second, .val (.long v11), .second, .val (.ref v12), .val (.ref v13), .val (.ref v14), .val (.ref v15), .val (.int v16), .val (.int v17), .val (.int v18), .val (.int v19), .val (.int v20), .val (.int v21), .val (.int v22), .val (.int v23), .unset, .unset] []) := by
  refine own_iload X0 hx (hb hby at_285) (pc' := 287) rfl rfl ?_
  by_cases hc47 : v19 = (0 : Int32)
  · refine own_ifNo X0 hx (hb hby at_287) (pc' := 290) rfl ((if0 _ _).trans (teq hc47).2) ?_
    refine own_iconst X0 hx (hb hby at_290) (pc' := 291) rfl (v := (1 : Int32)) rfl ?_
    refine own_goto X0 hx (hb hby at_291) (pc' := 295) (by decide) (by decide) ?_
    refine own_istore X0 hx (hb hby at_295) (pc' := 297) rfl (Ls' := #[.val (.long v1), .second, .val (.long v2), .second, .val (.long v3), .second, .val (.long v4), .second, .val (.int v5), .val (.long v6), .second, .val (.long v7), .second, .val (.long v8), .second, .val (.int v9), .val (.long v10), .second, .val (.long v11), .second, .val (.ref v12), .val (.ref v13), .val (.ref v14), .val (.ref v15), .val (.int v16), .val (.int v17), .val (.int v18), .val (.int v19), .val (.int v20), .val (.int v21), .val (.int v22), .val (.int v23), .val (.int (1 : Int32)), .unset]) rfl ?_
    refine own_cast ?_ (sg0_297 l hw hx hZ hby hml hown hnm hret hlk v1 v2 v3 v4 v5 v6 v7 v8 v9 v10 v11 v12 v13 v14 v15 v16 v17 v18 v19 v20 v21 v22 v23 (1 : Int32) Z0 X0 N0 e0)
    rw [own_f0_285, if_pos hc47]
  · refine own_ifYes X0 hx (hb hby at_287) ((if0 _ _).trans (feq hc47).2) (pc' := 294) (by decide) (by decide) ?_
    refine own_iconst X0 hx (hb hby at_294) (pc' := 295) rfl (v := (0 : Int32)) rfl ?_
    refine own_istore X0 hx (hb hby at_295) (pc' := 297) rfl (Ls' := #[.val (.long v1), .second, .val (.long v2), .second, .val (.long v3), .second, .val (.long v4), .second, .val (.int v5), .val (.long v6), .second, .val (.long v7), .second, .val (.long v8), .second, .val (.int v9), .val (.long v10), .second, .val (.long v11), .second, .val (.ref v12), .val (.ref v13), .val (.ref v14), .val (.ref v15), .val (.int v16), .val (.int v17), .val (.int v18), .val (.int v19), .val (.int v20), .val (.int v21), .val (.int v22), .val (.int v23), .val (.int (0 : Int32)), .unset]) rfl ?_
    refine own_cast ?_ (sg0_297 l hw hx hZ hby hml hown hnm hret hlk v1 v2 v3 v4 v5 v6 v7 v8 v9 v10 v11 v12 v13 v14 v15 v16 v17 v18 v19 v20 v21 v22 v23 (0 : Int32) Z0 X0 N0 e0)
    rw [own_f0_285, if_neg hc47]
set_option maxRecDepth 65536 in
set_option maxHeartbeats 40000000 in
theorem sg0_268 {p : Program} (l : Launch) {e : Env} {s : State} {m : MethodId} {args : Array Value} {below : List Frame} {meth : Method} {c : Code} {Z : State} {a0 : Array Value} (hw : ∀ d ∈ tables_1, d.before a0 Z = true) (hx : p.tables.exec = Jvm.exec) (hZ : Z.Warmed39 s.vm) (hby : c.code = code) (hml : c.maxLocals = 34) (hown : s.vm.findClass "SilenceCoversPinLaw" = some m.cls) (hnm : meth.name = "law") (hret : meth.sig.returnType = (some .boolean)) (hlk : meth.locks = false) (v1 : Int64) (v2 : Int64) (v3 : Int64) (v4 : Int64) (v5 : Int32) (v6 : Int64) (v7 : Int64) (v8 : Int64) (v9 : Int32) (v10 : Int64) (v11 : Int64) (v12 : Addr) (v13 : Addr) (v14 : Addr) (v15 : Addr) (v16 : Int32) (v17 : Int32) (v18 : Int32) (v19 : Int32) (v20 : Int32) (v21 : Int32) (v22 : Int32) {h0 : Heap} {n0 : Nat} (Z0 : n0 ≤ h0.size) {T0 : State} {L0 : List Loc} (X0 : Stand p l e room_1 s m args below meth c T0 L0 4 8) (N0 : Fr n0 L0) (e0 : T0.heap = h0)  :
    own_Fin p.tables e below (own_End below s (own_L n0 (.int (own_f0_268 v1 v2 v3 v4 v5 v6 v7 v8 v9 v10 v11 v16 v17 v18 v19 v20 v21 v22))) 4 8) T0 (mkF m 268 #[.val (.long v1), .second, .val (.long v2), .second, .val (.long v3), .second, .val (.long v4), .second, .val (.int v5), .val (.long v6), .second, .val (.long v7), .second, .val (.long v8), .second, .val (.int v9), .val (.long v10), .second, .val (.long v11), .second, .val (.ref v12), .val (.ref v13), .val (.ref v14), .val (.ref v15), .val (.int v16), .val (.int v17), .val (.int v18), .val (.int v19), .val (.int v20), .val (.int v21), .val (.int v22), .unset, .unset, .unset] []) := by
  refine own_iload X0 hx (hb hby at_268) (pc' := 270) rfl rfl ?_
  by_cases hc45 : v17 = (0 : Int32)
  · refine own_ifYes X0 hx (hb hby at_270) ((if0 _ _).trans (teq hc45).1) (pc' := 278) (by decide) (by decide) ?_
    refine own_iconst X0 hx (hb hby at_278) (pc' := 279) rfl (v := (1 : Int32)) rfl ?_
    refine own_goto X0 hx (hb hby at_279) (pc' := 283) (by decide) (by decide) ?_
    refine own_istore X0 hx (hb hby at_283) (pc' := 285) rfl (Ls' := #[.val (.long v1), .second, .val (.long v2), .second, .val (.long v3), .second, .val (.long v4), .second, .val (.int v5), .val (.long v6), .second, .val (.long v7), .second, .val (.long v8), .second, .val (.int v9), .val (.long v10), .second, .val (.long v11), .second, .val (.ref v12), .val (.ref v13), .val (.ref v14), .val (.ref v15), .val (.int v16), .val (.int v17), .val (.int v18), .val (.int v19), .val (.int v20), .val (.int v21), .val (.int v22), .val (.int (1 : Int32)), .unset, .unset]) rfl ?_
    refine own_cast ?_ (sg0_285 l hw hx hZ hby hml hown hnm hret hlk v1 v2 v3 v4 v5 v6 v7 v8 v9 v10 v11 v12 v13 v14 v15 v16 v17 v18 v19 v20 v21 v22 (1 : Int32) Z0 X0 N0 e0)
    rw [own_f0_268, if_pos hc45]
  · refine own_ifNo X0 hx (hb hby at_270) (pc' := 273) rfl ((if0 _ _).trans (feq hc45).1) ?_
    refine own_iload X0 hx (hb hby at_273) (pc' := 275) rfl rfl ?_
    by_cases hc46 : v18 = (0 : Int32)
    · refine own_ifNo X0 hx (hb hby at_275) (pc' := 278) rfl ((if0 _ _).trans (teq hc46).2) ?_
      refine own_iconst X0 hx (hb hby at_278) (pc' := 279) rfl (v := (1 : Int32)) rfl ?_
      refine own_goto X0 hx (hb hby at_279) (pc' := 283) (by decide) (by decide) ?_
      refine own_istore X0 hx (hb hby at_283) (pc' := 285) rfl (Ls' := #[.val (.long v1), .second, .val (.long v2), .second, .val (.long v3), .second, .val (.long v4), .second, .val (.int v5), .val (.long v6), .second, .val (.long v7), .second, .val (.long v8), .second, .val (.int v9), .val (.long v10), .second, .val (.long v11), .second, .val (.ref v12), .val (.ref v13), .val (.ref v14), .val (.ref v15), .val (.int v16), .val (.int v17), .val (.int v18), .val (.int v19), .val (.int v20), .val (.int v21), .val (.int v22), .val (.int (1 : Int32)), .unset, .unset]) rfl ?_
      refine own_cast ?_ (sg0_285 l hw hx hZ hby hml hown hnm hret hlk v1 v2 v3 v4 v5 v6 v7 v8 v9 v10 v11 v12 v13 v14 v15 v16 v17 v18 v19 v20 v21 v22 (1 : Int32) Z0 X0 N0 e0)
      rw [own_f0_268, if_neg hc45, if_pos hc46]
    · refine own_ifYes X0 hx (hb hby at_275) ((if0 _ _).trans (feq hc46).2) (pc' := 282) (by decide) (by decide) ?_
      refine own_iconst X0 hx (hb hby at_282) (pc' := 283) rfl (v := (0 : Int32)) rfl ?_
      refine own_istore X0 hx (hb hby at_283) (pc' := 285) rfl (Ls' := #[.val (.long v1), .second, .val (.long v2), .second, .val (.long v3), .second, .val (.long v4), .second, .val (.int v5), .val (.long v6), .second, .val (.long v7), .second, .val (.long v8), .second, .val (.int v9), .val (.long v10), .second, .val (.long v11), .second, .val (.ref v12), .val (.ref v13), .val (.ref v14), .val (.ref v15), .val (.int v16), .val (.int v17), .val (.int v18), .val (.int v19), .val (.int v20), .val (.int v21), .val (.int v22), .val (.int (0 : Int32)), .unset, .unset]) rfl ?_
      refine own_cast ?_ (sg0_285 l hw hx hZ hby hml hown hnm hret hlk v1 v2 v3 v4 v5 v6 v7 v8 v9 v10 v11 v12 v13 v14 v15 v16 v17 v18 v19 v20 v21 v22 (0 : Int32) Z0 X0 N0 e0)
      rw [own_f0_268, if_neg hc45, if_neg hc46]
set_option maxRecDepth 65536 in
set_option maxHeartbeats 40000000 in
theorem sg0_241 {p : Program} (l : Launch) {e : Env} {s : State} {m : MethodId} {args : Array Value} {below : List Frame} {meth : Method} {c : Code} {Z : State} {a0 : Array Value} (hw : ∀ d ∈ tables_1, d.before a0 Z = true) (hx : p.tables.exec = Jvm.exec) (hZ : Z.Warmed39 s.vm) (hby : c.code = code) (hml : c.maxLocals = 34) (hown : s.vm.findClass "SilenceCoversPinLaw" = some m.cls) (hnm : meth.name = "law") (hret : meth.sig.returnType = (some .boolean)) (hlk : meth.locks = false) (v1 : Int64) (v2 : Int64) (v3 : Int64) (v4 : Int64) (v5 : Int32) (v6 : Int64) (v7 : Int64) (v8 : Int64) (v9 : Int32) (v10 : Int64) (v11 : Int64) (v12 : Addr) (v13 : Addr) (v14 : Addr) (v15 : Addr) (v16 : Int32) (v17 : Int32) (v18 : Int32) (v19 : Int32) (v20 : Int32) (v21 : Int32) {h0 : Heap} {n0 : Nat} (Z0 : n0 ≤ h0.size) {T0 : State} {L0 : List Loc} (X0 : Stand p l e room_1 s m args below meth c T0 L0 4 8) (N0 : Fr n0 L0) (e0 : T0.heap = h0)  :
    own_Fin p.tables e below (own_End below s (own_L n0 (.int (own_f0_241 v1 v2 v3 v4 v5 v6 v7 v8 v9 v10 v11 v16 v17 v18 v19 v20 v21))) 4 8) T0 (mkF m 241 #[.val (.long v1), .second, .val (.long v2), .second, .val (.long v3), .second, .val (.long v4), .second, .val (.int v5), .val (.long v6), .second, .val (.long v7), .second, .val (.long v8), .second, .val (.int v9), .val (.long v10), .second, .val (.long v11), .second, .val (.ref v12), .val (.ref v13), .val (.ref v14), .val (.ref v15), .val (.int v16), .val (.int v17), .val (.int v18), .val (.int v19), .val (.int v20), .val (.int v21), .unset, .unset, .unset, .unset] []) := by
  refine own_iload X0 hx (hb hby at_241) (pc' := 243) rfl rfl ?_
  refine own_iload X0 hx (hb hby at_243) (pc' := 245) rfl rfl ?_
  by_cases hc40 : v17 = (0 : Int32)
  · refine own_ifNo X0 hx (hb hby at_245) (pc' := 248) rfl ((if0 _ _).trans (teq hc40).2) ?_
    refine own_iload X0 hx (hb hby at_248) (pc' := 250) rfl rfl ?_
    by_cases hc41 : v18 = (0 : Int32)
    · refine own_ifYes X0 hx (hb hby at_250) ((if0 _ _).trans (teq hc41).1) (pc' := 257) (by decide) (by decide) ?_
      refine own_iconst X0 hx (hb hby at_257) (pc' := 258) rfl (v := (0 : Int32)) rfl ?_
      by_cases hc42 : v16 = (0 : Int32)
      · refine own_icmpNo X0 hx (hb hby at_258) (pc' := 261) rfl (teq hc42).2 ?_
        refine own_iconst X0 hx (hb hby at_261) (pc' := 262) rfl (v := (1 : Int32)) rfl ?_
        refine own_goto X0 hx (hb hby at_262) (pc' := 266) (by decide) (by decide) ?_
        refine own_istore X0 hx (hb hby at_266) (pc' := 268) rfl (Ls' := #[.val (.long v1), .second, .val (.long v2), .second, .val (.long v3), .second, .val (.long v4), .second, .val (.int v5), .val (.long v6), .second, .val (.long v7), .second, .val (.long v8), .second, .val (.int v9), .val (.long v10), .second, .val (.long v11), .second, .val (.ref v12), .val (.ref v13), .val (.ref v14), .val (.ref v15), .val (.int v16), .val (.int v17), .val (.int v18), .val (.int v19), .val (.int v20), .val (.int v21), .val (.int (1 : Int32)), .unset, .unset, .unset]) rfl ?_
        refine own_cast ?_ (sg0_268 l hw hx hZ hby hml hown hnm hret hlk v1 v2 v3 v4 v5 v6 v7 v8 v9 v10 v11 v12 v13 v14 v15 v16 v17 v18 v19 v20 v21 (1 : Int32) Z0 X0 N0 e0)
        rw [own_f0_241, if_pos hc40, if_pos hc41, if_pos hc42]
      · refine own_icmpYes X0 hx (hb hby at_258) (feq hc42).2 (pc' := 265) (by decide) (by decide) ?_
        refine own_iconst X0 hx (hb hby at_265) (pc' := 266) rfl (v := (0 : Int32)) rfl ?_
        refine own_istore X0 hx (hb hby at_266) (pc' := 268) rfl (Ls' := #[.val (.long v1), .second, .val (.long v2), .second, .val (.long v3), .second, .val (.long v4), .second, .val (.int v5), .val (.long v6), .second, .val (.long v7), .second, .val (.long v8), .second, .val (.int v9), .val (.long v10), .second, .val (.long v11), .second, .val (.ref v12), .val (.ref v13), .val (.ref v14), .val (.ref v15), .val (.int v16), .val (.int v17), .val (.int v18), .val (.int v19), .val (.int v20), .val (.int v21), .val (.int (0 : Int32)), .unset, .unset, .unset]) rfl ?_
        refine own_cast ?_ (sg0_268 l hw hx hZ hby hml hown hnm hret hlk v1 v2 v3 v4 v5 v6 v7 v8 v9 v10 v11 v12 v13 v14 v15 v16 v17 v18 v19 v20 v21 (0 : Int32) Z0 X0 N0 e0)
        rw [own_f0_241, if_pos hc40, if_pos hc41, if_neg hc42]
    · refine own_ifNo X0 hx (hb hby at_250) (pc' := 253) rfl ((if0 _ _).trans (feq hc41).1) ?_
      refine own_iconst X0 hx (hb hby at_253) (pc' := 254) rfl (v := (1 : Int32)) rfl ?_
      refine own_goto X0 hx (hb hby at_254) (pc' := 258) (by decide) (by decide) ?_
      by_cases hc43 : v16 = (1 : Int32)
      · refine own_icmpNo X0 hx (hb hby at_258) (pc' := 261) rfl (teq hc43).2 ?_
        refine own_iconst X0 hx (hb hby at_261) (pc' := 262) rfl (v := (1 : Int32)) rfl ?_
        refine own_goto X0 hx (hb hby at_262) (pc' := 266) (by decide) (by decide) ?_
        refine own_istore X0 hx (hb hby at_266) (pc' := 268) rfl (Ls' := #[.val (.long v1), .second, .val (.long v2), .second, .val (.long v3), .second, .val (.long v4), .second, .val (.int v5), .val (.long v6), .second, .val (.long v7), .second, .val (.long v8), .second, .val (.int v9), .val (.long v10), .second, .val (.long v11), .second, .val (.ref v12), .val (.ref v13), .val (.ref v14), .val (.ref v15), .val (.int v16), .val (.int v17), .val (.int v18), .val (.int v19), .val (.int v20), .val (.int v21), .val (.int (1 : Int32)), .unset, .unset, .unset]) rfl ?_
        refine own_cast ?_ (sg0_268 l hw hx hZ hby hml hown hnm hret hlk v1 v2 v3 v4 v5 v6 v7 v8 v9 v10 v11 v12 v13 v14 v15 v16 v17 v18 v19 v20 v21 (1 : Int32) Z0 X0 N0 e0)
        rw [own_f0_241, if_pos hc40, if_neg hc41, if_pos hc43]
      · refine own_icmpYes X0 hx (hb hby at_258) (feq hc43).2 (pc' := 265) (by decide) (by decide) ?_
        refine own_iconst X0 hx (hb hby at_265) (pc' := 266) rfl (v := (0 : Int32)) rfl ?_
        refine own_istore X0 hx (hb hby at_266) (pc' := 268) rfl (Ls' := #[.val (.long v1), .second, .val (.long v2), .second, .val (.long v3), .second, .val (.long v4), .second, .val (.int v5), .val (.long v6), .second, .val (.long v7), .second, .val (.long v8), .second, .val (.int v9), .val (.long v10), .second, .val (.long v11), .second, .val (.ref v12), .val (.ref v13), .val (.ref v14), .val (.ref v15), .val (.int v16), .val (.int v17), .val (.int v18), .val (.int v19), .val (.int v20), .val (.int v21), .val (.int (0 : Int32)), .unset, .unset, .unset]) rfl ?_
        refine own_cast ?_ (sg0_268 l hw hx hZ hby hml hown hnm hret hlk v1 v2 v3 v4 v5 v6 v7 v8 v9 v10 v11 v12 v13 v14 v15 v16 v17 v18 v19 v20 v21 (0 : Int32) Z0 X0 N0 e0)
        rw [own_f0_241, if_pos hc40, if_neg hc41, if_neg hc43]
  · refine own_ifYes X0 hx (hb hby at_245) ((if0 _ _).trans (feq hc40).2) (pc' := 253) (by decide) (by decide) ?_
    refine own_iconst X0 hx (hb hby at_253) (pc' := 254) rfl (v := (1 : Int32)) rfl ?_
    refine own_goto X0 hx (hb hby at_254) (pc' := 258) (by decide) (by decide) ?_
    by_cases hc44 : v16 = (1 : Int32)
    · refine own_icmpNo X0 hx (hb hby at_258) (pc' := 261) rfl (teq hc44).2 ?_
      refine own_iconst X0 hx (hb hby at_261) (pc' := 262) rfl (v := (1 : Int32)) rfl ?_
      refine own_goto X0 hx (hb hby at_262) (pc' := 266) (by decide) (by decide) ?_
      refine own_istore X0 hx (hb hby at_266) (pc' := 268) rfl (Ls' := #[.val (.long v1), .second, .val (.long v2), .second, .val (.long v3), .second, .val (.long v4), .second, .val (.int v5), .val (.long v6), .second, .val (.long v7), .second, .val (.long v8), .second, .val (.int v9), .val (.long v10), .second, .val (.long v11), .second, .val (.ref v12), .val (.ref v13), .val (.ref v14), .val (.ref v15), .val (.int v16), .val (.int v17), .val (.int v18), .val (.int v19), .val (.int v20), .val (.int v21), .val (.int (1 : Int32)), .unset, .unset, .unset]) rfl ?_
      refine own_cast ?_ (sg0_268 l hw hx hZ hby hml hown hnm hret hlk v1 v2 v3 v4 v5 v6 v7 v8 v9 v10 v11 v12 v13 v14 v15 v16 v17 v18 v19 v20 v21 (1 : Int32) Z0 X0 N0 e0)
      rw [own_f0_241, if_neg hc40, if_pos hc44]
    · refine own_icmpYes X0 hx (hb hby at_258) (feq hc44).2 (pc' := 265) (by decide) (by decide) ?_
      refine own_iconst X0 hx (hb hby at_265) (pc' := 266) rfl (v := (0 : Int32)) rfl ?_
      refine own_istore X0 hx (hb hby at_266) (pc' := 268) rfl (Ls' := #[.val (.long v1), .second, .val (.long v2), .second, .val (.long v3), .second, .val (.long v4), .second, .val (.int v5), .val (.long v6), .second, .val (.long v7), .second, .val (.long v8), .second, .val (.int v9), .val (.long v10), .second, .val (.long v11), .second, .val (.ref v12), .val (.ref v13), .val (.ref v14), .val (.ref v15), .val (.int v16), .val (.int v17), .val (.int v18), .val (.int v19), .val (.int v20), .val (.int v21), .val (.int (0 : Int32)), .unset, .unset, .unset]) rfl ?_
      refine own_cast ?_ (sg0_268 l hw hx hZ hby hml hown hnm hret hlk v1 v2 v3 v4 v5 v6 v7 v8 v9 v10 v11 v12 v13 v14 v15 v16 v17 v18 v19 v20 v21 (0 : Int32) Z0 X0 N0 e0)
      rw [own_f0_241, if_neg hc40, if_neg hc44]
set_option maxRecDepth 65536 in
set_option maxHeartbeats 40000000 in
theorem sg0_106 {p : Program} (l : Launch) {e : Env} {s : State} {m : MethodId} {args : Array Value} {below : List Frame} {meth : Method} {c : Code} {Z : State} {a0 : Array Value} (hw : ∀ d ∈ tables_1, d.before a0 Z = true) (hx : p.tables.exec = Jvm.exec) (hZ : Z.Warmed39 s.vm) (hby : c.code = code) (hml : c.maxLocals = 34) (hown : s.vm.findClass "SilenceCoversPinLaw" = some m.cls) (hnm : meth.name = "law") (hret : meth.sig.returnType = (some .boolean)) (hlk : meth.locks = false) (v1 : Int64) (v2 : Int64) (v3 : Int64) (v4 : Int64) (v5 : Int32) (v6 : Int64) (v7 : Int64) (v8 : Int64) (v9 : Int32) (v10 : Int64) (v11 : Int64) {h0 : Heap} {n0 : Nat} (Z0 : n0 ≤ h0.size) {T0 : State} {L0 : List Loc} (X0 : Stand p l e room_1 s m args below meth c T0 L0 0 0) (N0 : Fr n0 L0) (e0 : T0.heap = h0)  :
    own_Fin p.tables e below (own_End below s (own_L n0 (.int (own_f0_106 v1 v2 v3 v4 v5 v6 v7 v8 v9 v10 v11))) 4 8) T0 (mkF m 106 #[.val (.long v1), .second, .val (.long v2), .second, .val (.long v3), .second, .val (.long v4), .second, .val (.int v5), .val (.long v6), .second, .val (.long v7), .second, .val (.long v8), .second, .val (.int v9), .val (.long v10), .second, .val (.long v11), .second, .unset, .unset, .unset, .unset, .unset, .unset, .unset, .unset, .unset, .unset, .unset, .unset, .unset, .unset] []) := by
  obtain ⟨T18, h18, X18, e18, E18, A18, D18, -, st18⟩ := newO X0 hx hZ hown (hw _ (List.mem_of_getElem? (i := 7) rfl)) (hw _ (List.mem_of_getElem? (i := 8) rfl)) (hw _ (List.mem_of_getElem? (i := 9) rfl)) e0 (g := (mkF m 106 #[.val (.long v1), .second, .val (.long v2), .second, .val (.long v3), .second, .val (.long v4), .second, .val (.int v5), .val (.long v6), .second, .val (.long v7), .second, .val (.long v8), .second, .val (.int v9), .val (.long v10), .second, .val (.long v11), .second, .unset, .unset, .unset, .unset, .unset, .unset, .unset, .unset, .unset, .unset, .unset, .unset, .unset, .unset] [])) rfl (hb hby at_106) (by decide) (by decide)
  obtain ⟨b18, g18⟩ : ∃ z, z = h0.size := ⟨_, rfl⟩
  rw [← g18] at A18 D18 st18
  have g_b18 : n0 ≤ b18 := Nat.le_trans Z0 (Nat.le_of_eq g18.symm)
  have F_b18_from_18 : Fld Z h18 b18 "StandInLedger$Silence" "from" "J" (.long (0 : Int64)) := D18 (Or.inr (hw _ (List.mem_of_getElem? (i := 22) rfl))) (ty := .long) (by decide)
  have F_b18_until_18 : Fld Z h18 b18 "StandInLedger$Silence" "until" "J" (.long (0 : Int64)) := D18 (Or.inr (hw _ (List.mem_of_getElem? (i := 24) rfl))) (ty := .long) (by decide)
  have sz18 : n0 ≤ h18.size := Nat.le_trans Z0 E18.1
  refine own_st ?_ st18
  show own_Fin _ _ _ _ T18 (mkF m 109 #[.val (.long v1), .second, .val (.long v2), .second, .val (.long v3), .second, .val (.long v4), .second, .val (.int v5), .val (.long v6), .second, .val (.long v7), .second, .val (.long v8), .second, .val (.int v9), .val (.long v10), .second, .val (.long v11), .second, .unset, .unset, .unset, .unset, .unset, .unset, .unset, .unset, .unset, .unset, .unset, .unset, .unset, .unset] [(.ref b18)])
  refine own_dup X18 hx (hb hby at_109) (pc' := 110) rfl rfl ?_
  refine own_lload X18 hx (hb hby at_110) (pc' := 112) rfl rfl ?_
  refine own_lload X18 hx (hb hby at_112) (pc' := 114) rfl rfl ?_
  obtain ⟨_, _, ⟨T19, L19, k19, n19⟩, -, X19, ⟨Lc19, hQ19, l19, y19, z19⟩, st19⟩ := X18.specialBack hx (y := (⟨"StandInLedger$Silence", "<init>", "(JJ)V"⟩ : MethodName)) rfl hown (mvT hZ (hw _ (List.mem_of_getElem? (i := 10) rfl))) (mvT hZ (hw _ (List.mem_of_getElem? (i := 11) rfl))) (mvT hZ (hw _ (List.mem_of_getElem? (i := 12) rfl))) (by decide) (backOf (W := 1) (rm3 l Z a0 hw [] b18 v6 v7 (0 : Int64) (0 : Int64) h18 n0 sz18 A18 g_b18 F_b18_from_18 F_b18_until_18) hZ (hw _ (List.mem_of_getElem? (i := 12) rfl)) (hw _ (List.mem_of_getElem? (i := 9) rfl)) (by decide) (by decide)) (g := (mkF m 114 #[.val (.long v1), .second, .val (.long v2), .second, .val (.long v3), .second, .val (.long v4), .second, .val (.int v5), .val (.long v6), .second, .val (.long v7), .second, .val (.long v8), .second, .val (.int v9), .val (.long v10), .second, .val (.long v11), .second, .unset, .unset, .unset, .unset, .unset, .unset, .unset, .unset, .unset, .unset, .unset, .unset, .unset, .unset] [(.long v7), (.long v6), (.ref b18), (.ref b18)])) rfl (by rw [hml]; rfl) (Steps.refl _) (a := b18) (argsL := [(.long v6), (.long v7)]) (rest := [(.ref b18)]) (lenOf pd_2 rfl) rfl (by show 2 * 0 + _ ≤ _; exact Nat.le_of_eq rfl) (hb hby at_114) (fun _ _ => ⟨rfl, e18, (by decide : 1 + 0 ≤ _), (by decide : 2 + 0 ≤ _)⟩)
  dsimp only [Pt.U, Pt.locs, Pt.cells, Pt.slots] at X19 l19 y19 z19 st19 hQ19
  subst l19 y19 z19
  obtain ⟨rfl, N19q, K19', E_b18_19, F_b18_from_19, F_b18_until_19⟩ := hQ19
  have sz19 : n0 ≤ T19.heap.size := Nat.le_trans sz18 K19'.1
  have N19 := Fr.app N0 N19q
  refine own_st ?_ (fun t k => st19.trans k)
  show own_Fin _ _ _ _ T19 (mkF m 117 #[.val (.long v1), .second, .val (.long v2), .second, .val (.long v3), .second, .val (.long v4), .second, .val (.int v5), .val (.long v6), .second, .val (.long v7), .second, .val (.long v8), .second, .val (.int v9), .val (.long v10), .second, .val (.long v11), .second, .unset, .unset, .unset, .unset, .unset, .unset, .unset, .unset, .unset, .unset, .unset, .unset, .unset, .unset] [(.ref b18)])
  refine own_astore X19 hx (hb hby at_117) (pc' := 119) rfl (Ls' := #[.val (.long v1), .second, .val (.long v2), .second, .val (.long v3), .second, .val (.long v4), .second, .val (.int v5), .val (.long v6), .second, .val (.long v7), .second, .val (.long v8), .second, .val (.int v9), .val (.long v10), .second, .val (.long v11), .second, .val (.ref b18), .unset, .unset, .unset, .unset, .unset, .unset, .unset, .unset, .unset, .unset, .unset, .unset, .unset]) rfl rfl ?_
  obtain ⟨T20, h20, X20, e20, E20, A20, D20, -, st20⟩ := newO X19 hx hZ hown (hw _ (List.mem_of_getElem? (i := 7) rfl)) (hw _ (List.mem_of_getElem? (i := 8) rfl)) (hw _ (List.mem_of_getElem? (i := 9) rfl)) rfl (g := (mkF m 119 #[.val (.long v1), .second, .val (.long v2), .second, .val (.long v3), .second, .val (.long v4), .second, .val (.int v5), .val (.long v6), .second, .val (.long v7), .second, .val (.long v8), .second, .val (.int v9), .val (.long v10), .second, .val (.long v11), .second, .val (.ref b18), .unset, .unset, .unset, .unset, .unset, .unset, .unset, .unset, .unset, .unset, .unset, .unset, .unset] [])) rfl (hb hby at_119) (by decide) (by decide)
  obtain ⟨b20, g20⟩ : ∃ z, z = T19.heap.size := ⟨_, rfl⟩
  rw [← g20] at A20 D20 st20
  have g_b20 : n0 ≤ b20 := Nat.le_trans sz19 (Nat.le_of_eq g20.symm)
  have ne_b18_b20 : b18 ≠ b20 := Nat.ne_of_lt (Nat.lt_of_lt_of_le F_b18_until_19.lt (Nat.le_of_eq g20.symm))
  have E_b18_20 : Exa Z h20 b18 "StandInLedger$Silence" := E_b18_19.ext E20
  have F_b18_from_20 : Fld Z h20 b18 "StandInLedger$Silence" "from" "J" (.long v6) := F_b18_from_19.ext E20
  have F_b18_until_20 : Fld Z h20 b18 "StandInLedger$Silence" "until" "J" (.long v7) := F_b18_until_19.ext E20
  have F_b20_from_20 : Fld Z h20 b20 "StandInLedger$Silence" "from" "J" (.long (0 : Int64)) := D20 (Or.inr (hw _ (List.mem_of_getElem? (i := 22) rfl))) (ty := .long) (by decide)
  have F_b20_until_20 : Fld Z h20 b20 "StandInLedger$Silence" "until" "J" (.long (0 : Int64)) := D20 (Or.inr (hw _ (List.mem_of_getElem? (i := 24) rfl))) (ty := .long) (by decide)
  have sz20 : n0 ≤ h20.size := Nat.le_trans sz19 E20.1
  refine own_st ?_ st20
  show own_Fin _ _ _ _ T20 (mkF m 122 #[.val (.long v1), .second, .val (.long v2), .second, .val (.long v3), .second, .val (.long v4), .second, .val (.int v5), .val (.long v6), .second, .val (.long v7), .second, .val (.long v8), .second, .val (.int v9), .val (.long v10), .second, .val (.long v11), .second, .val (.ref b18), .unset, .unset, .unset, .unset, .unset, .unset, .unset, .unset, .unset, .unset, .unset, .unset, .unset] [(.ref b20)])
  refine own_dup X20 hx (hb hby at_122) (pc' := 123) rfl rfl ?_
  refine own_lload X20 hx (hb hby at_123) (pc' := 125) rfl rfl ?_
  refine own_lload X20 hx (hb hby at_125) (pc' := 127) rfl rfl ?_
  obtain ⟨_, _, ⟨T21, L21, k21, n21⟩, -, X21, ⟨Lc21, hQ21, l21, y21, z21⟩, st21⟩ := X20.specialBack hx (y := (⟨"StandInLedger$Silence", "<init>", "(JJ)V"⟩ : MethodName)) rfl hown (mvT hZ (hw _ (List.mem_of_getElem? (i := 10) rfl))) (mvT hZ (hw _ (List.mem_of_getElem? (i := 11) rfl))) (mvT hZ (hw _ (List.mem_of_getElem? (i := 12) rfl))) (by decide) (backOf (W := 1) (rm3 l Z a0 hw [] b20 v6 v8 (0 : Int64) (0 : Int64) h20 n0 sz20 A20 g_b20 F_b20_from_20 F_b20_until_20) hZ (hw _ (List.mem_of_getElem? (i := 12) rfl)) (hw _ (List.mem_of_getElem? (i := 9) rfl)) (by decide) (by decide)) (g := (mkF m 127 #[.val (.long v1), .second, .val (.long v2), .second, .val (.long v3), .second, .val (.long v4), .second, .val (.int v5), .val (.long v6), .second, .val (.long v7), .second, .val (.long v8), .second, .val (.int v9), .val (.long v10), .second, .val (.long v11), .second, .val (.ref b18), .unset, .unset, .unset, .unset, .unset, .unset, .unset, .unset, .unset, .unset, .unset, .unset, .unset] [(.long v8), (.long v6), (.ref b20), (.ref b20)])) rfl (by rw [hml]; rfl) (Steps.refl _) (a := b20) (argsL := [(.long v6), (.long v8)]) (rest := [(.ref b20)]) (lenOf pd_2 rfl) rfl (by show 2 * 0 + _ ≤ _; exact Nat.le_of_eq rfl) (hb hby at_127) (fun _ _ => ⟨rfl, e20, (by decide : 2 + 0 ≤ _), (by decide : 4 + 0 ≤ _)⟩)
  dsimp only [Pt.U, Pt.locs, Pt.cells, Pt.slots] at X21 l21 y21 z21 st21 hQ21
  subst l21 y21 z21
  obtain ⟨rfl, N21q, K21', E_b20_21, F_b20_from_21, F_b20_until_21⟩ := hQ21
  have E_b18_21 : Exa Z T21.heap b18 "StandInLedger$Silence" := E_b18_20.keep K21'
  have F_b18_from_21 : Fld Z T21.heap b18 "StandInLedger$Silence" "from" "J" (.long v6) := F_b18_from_20.keep K21' (ninS ne_b18_b20 nin0)
  have F_b18_until_21 : Fld Z T21.heap b18 "StandInLedger$Silence" "until" "J" (.long v7) := F_b18_until_20.keep K21' (ninS ne_b18_b20 nin0)
  have sz21 : n0 ≤ T21.heap.size := Nat.le_trans sz20 K21'.1
  have N21 := Fr.app N19 N21q
  refine own_st ?_ (fun t k => st21.trans k)
  show own_Fin _ _ _ _ T21 (mkF m 130 #[.val (.long v1), .second, .val (.long v2), .second, .val (.long v3), .second, .val (.long v4), .second, .val (.int v5), .val (.long v6), .second, .val (.long v7), .second, .val (.long v8), .second, .val (.int v9), .val (.long v10), .second, .val (.long v11), .second, .val (.ref b18), .unset, .unset, .unset, .unset, .unset, .unset, .unset, .unset, .unset, .unset, .unset, .unset, .unset] [(.ref b20)])
  refine own_astore X21 hx (hb hby at_130) (pc' := 132) rfl (Ls' := #[.val (.long v1), .second, .val (.long v2), .second, .val (.long v3), .second, .val (.long v4), .second, .val (.int v5), .val (.long v6), .second, .val (.long v7), .second, .val (.long v8), .second, .val (.int v9), .val (.long v10), .second, .val (.long v11), .second, .val (.ref b18), .val (.ref b20), .unset, .unset, .unset, .unset, .unset, .unset, .unset, .unset, .unset, .unset, .unset, .unset]) rfl rfl ?_
  obtain ⟨T22, h22, X22, e22, E22, A22, D22, -, st22⟩ := newO X21 hx hZ hown (hw _ (List.mem_of_getElem? (i := 7) rfl)) (hw _ (List.mem_of_getElem? (i := 8) rfl)) (hw _ (List.mem_of_getElem? (i := 9) rfl)) rfl (g := (mkF m 132 #[.val (.long v1), .second, .val (.long v2), .second, .val (.long v3), .second, .val (.long v4), .second, .val (.int v5), .val (.long v6), .second, .val (.long v7), .second, .val (.long v8), .second, .val (.int v9), .val (.long v10), .second, .val (.long v11), .second, .val (.ref b18), .val (.ref b20), .unset, .unset, .unset, .unset, .unset, .unset, .unset, .unset, .unset, .unset, .unset, .unset] [])) rfl (hb hby at_132) (by decide) (by decide)
  obtain ⟨b22, g22⟩ : ∃ z, z = T21.heap.size := ⟨_, rfl⟩
  rw [← g22] at A22 D22 st22
  have g_b22 : n0 ≤ b22 := Nat.le_trans sz21 (Nat.le_of_eq g22.symm)
  have ne_b18_b22 : b18 ≠ b22 := Nat.ne_of_lt (Nat.lt_of_lt_of_le F_b18_until_21.lt (Nat.le_of_eq g22.symm))
  have ne_b20_b22 : b20 ≠ b22 := Nat.ne_of_lt (Nat.lt_of_lt_of_le F_b20_until_21.lt (Nat.le_of_eq g22.symm))
  have E_b18_22 : Exa Z h22 b18 "StandInLedger$Silence" := E_b18_21.ext E22
  have F_b18_from_22 : Fld Z h22 b18 "StandInLedger$Silence" "from" "J" (.long v6) := F_b18_from_21.ext E22
  have F_b18_until_22 : Fld Z h22 b18 "StandInLedger$Silence" "until" "J" (.long v7) := F_b18_until_21.ext E22
  have E_b20_22 : Exa Z h22 b20 "StandInLedger$Silence" := E_b20_21.ext E22
  have F_b20_from_22 : Fld Z h22 b20 "StandInLedger$Silence" "from" "J" (.long v6) := F_b20_from_21.ext E22
  have F_b20_until_22 : Fld Z h22 b20 "StandInLedger$Silence" "until" "J" (.long v8) := F_b20_until_21.ext E22
  have F_b22_from_22 : Fld Z h22 b22 "StandInLedger$Silence" "from" "J" (.long (0 : Int64)) := D22 (Or.inr (hw _ (List.mem_of_getElem? (i := 22) rfl))) (ty := .long) (by decide)
  have F_b22_until_22 : Fld Z h22 b22 "StandInLedger$Silence" "until" "J" (.long (0 : Int64)) := D22 (Or.inr (hw _ (List.mem_of_getElem? (i := 24) rfl))) (ty := .long) (by decide)
  have sz22 : n0 ≤ h22.size := Nat.le_trans sz21 E22.1
  refine own_st ?_ st22
  show own_Fin _ _ _ _ T22 (mkF m 135 #[.val (.long v1), .second, .val (.long v2), .second, .val (.long v3), .second, .val (.long v4), .second, .val (.int v5), .val (.long v6), .second, .val (.long v7), .second, .val (.long v8), .second, .val (.int v9), .val (.long v10), .second, .val (.long v11), .second, .val (.ref b18), .val (.ref b20), .unset, .unset, .unset, .unset, .unset, .unset, .unset, .unset, .unset, .unset, .unset, .unset] [(.ref b22)])
  refine own_dup X22 hx (hb hby at_135) (pc' := 136) rfl rfl ?_
  refine own_lload X22 hx (hb hby at_136) (pc' := 138) rfl rfl ?_
  refine own_lload X22 hx (hb hby at_138) (pc' := 140) rfl rfl ?_
  obtain ⟨_, _, ⟨T23, L23, k23, n23⟩, -, X23, ⟨Lc23, hQ23, l23, y23, z23⟩, st23⟩ := X22.specialBack hx (y := (⟨"StandInLedger$Silence", "<init>", "(JJ)V"⟩ : MethodName)) rfl hown (mvT hZ (hw _ (List.mem_of_getElem? (i := 10) rfl))) (mvT hZ (hw _ (List.mem_of_getElem? (i := 11) rfl))) (mvT hZ (hw _ (List.mem_of_getElem? (i := 12) rfl))) (by decide) (backOf (W := 1) (rm3 l Z a0 hw [] b22 v8 v7 (0 : Int64) (0 : Int64) h22 n0 sz22 A22 g_b22 F_b22_from_22 F_b22_until_22) hZ (hw _ (List.mem_of_getElem? (i := 12) rfl)) (hw _ (List.mem_of_getElem? (i := 9) rfl)) (by decide) (by decide)) (g := (mkF m 140 #[.val (.long v1), .second, .val (.long v2), .second, .val (.long v3), .second, .val (.long v4), .second, .val (.int v5), .val (.long v6), .second, .val (.long v7), .second, .val (.long v8), .second, .val (.int v9), .val (.long v10), .second, .val (.long v11), .second, .val (.ref b18), .val (.ref b20), .unset, .unset, .unset, .unset, .unset, .unset, .unset, .unset, .unset, .unset, .unset, .unset] [(.long v7), (.long v8), (.ref b22), (.ref b22)])) rfl (by rw [hml]; rfl) (Steps.refl _) (a := b22) (argsL := [(.long v8), (.long v7)]) (rest := [(.ref b22)]) (lenOf pd_2 rfl) rfl (by show 2 * 0 + _ ≤ _; exact Nat.le_of_eq rfl) (hb hby at_140) (fun _ _ => ⟨rfl, e22, (by decide : 3 + 0 ≤ _), (by decide : 6 + 0 ≤ _)⟩)
  dsimp only [Pt.U, Pt.locs, Pt.cells, Pt.slots] at X23 l23 y23 z23 st23 hQ23
  subst l23 y23 z23
  obtain ⟨rfl, N23q, K23', E_b22_23, F_b22_from_23, F_b22_until_23⟩ := hQ23
  have E_b18_23 : Exa Z T23.heap b18 "StandInLedger$Silence" := E_b18_22.keep K23'
  have F_b18_from_23 : Fld Z T23.heap b18 "StandInLedger$Silence" "from" "J" (.long v6) := F_b18_from_22.keep K23' (ninS ne_b18_b22 nin0)
  have F_b18_until_23 : Fld Z T23.heap b18 "StandInLedger$Silence" "until" "J" (.long v7) := F_b18_until_22.keep K23' (ninS ne_b18_b22 nin0)
  have E_b20_23 : Exa Z T23.heap b20 "StandInLedger$Silence" := E_b20_22.keep K23'
  have F_b20_from_23 : Fld Z T23.heap b20 "StandInLedger$Silence" "from" "J" (.long v6) := F_b20_from_22.keep K23' (ninS ne_b20_b22 nin0)
  have F_b20_until_23 : Fld Z T23.heap b20 "StandInLedger$Silence" "until" "J" (.long v8) := F_b20_until_22.keep K23' (ninS ne_b20_b22 nin0)
  have sz23 : n0 ≤ T23.heap.size := Nat.le_trans sz22 K23'.1
  have N23 := Fr.app N21 N23q
  refine own_st ?_ (fun t k => st23.trans k)
  show own_Fin _ _ _ _ T23 (mkF m 143 #[.val (.long v1), .second, .val (.long v2), .second, .val (.long v3), .second, .val (.long v4), .second, .val (.int v5), .val (.long v6), .second, .val (.long v7), .second, .val (.long v8), .second, .val (.int v9), .val (.long v10), .second, .val (.long v11), .second, .val (.ref b18), .val (.ref b20), .unset, .unset, .unset, .unset, .unset, .unset, .unset, .unset, .unset, .unset, .unset, .unset] [(.ref b22)])
  refine own_astore X23 hx (hb hby at_143) (pc' := 145) rfl (Ls' := #[.val (.long v1), .second, .val (.long v2), .second, .val (.long v3), .second, .val (.long v4), .second, .val (.int v5), .val (.long v6), .second, .val (.long v7), .second, .val (.long v8), .second, .val (.int v9), .val (.long v10), .second, .val (.long v11), .second, .val (.ref b18), .val (.ref b20), .val (.ref b22), .unset, .unset, .unset, .unset, .unset, .unset, .unset, .unset, .unset, .unset, .unset]) rfl rfl ?_
  obtain ⟨T24, h24, X24, e24, E24, A24, D24, -, st24⟩ := newO X23 hx hZ hown (hw _ (List.mem_of_getElem? (i := 7) rfl)) (hw _ (List.mem_of_getElem? (i := 8) rfl)) (hw _ (List.mem_of_getElem? (i := 9) rfl)) rfl (g := (mkF m 145 #[.val (.long v1), .second, .val (.long v2), .second, .val (.long v3), .second, .val (.long v4), .second, .val (.int v5), .val (.long v6), .second, .val (.long v7), .second, .val (.long v8), .second, .val (.int v9), .val (.long v10), .second, .val (.long v11), .second, .val (.ref b18), .val (.ref b20), .val (.ref b22), .unset, .unset, .unset, .unset, .unset, .unset, .unset, .unset, .unset, .unset, .unset] [])) rfl (hb hby at_145) (by decide) (by decide)
  obtain ⟨b24, g24⟩ : ∃ z, z = T23.heap.size := ⟨_, rfl⟩
  rw [← g24] at A24 D24 st24
  have g_b24 : n0 ≤ b24 := Nat.le_trans sz23 (Nat.le_of_eq g24.symm)
  have ne_b18_b24 : b18 ≠ b24 := Nat.ne_of_lt (Nat.lt_of_lt_of_le F_b18_until_23.lt (Nat.le_of_eq g24.symm))
  have ne_b20_b24 : b20 ≠ b24 := Nat.ne_of_lt (Nat.lt_of_lt_of_le F_b20_until_23.lt (Nat.le_of_eq g24.symm))
  have ne_b22_b24 : b22 ≠ b24 := Nat.ne_of_lt (Nat.lt_of_lt_of_le F_b22_until_23.lt (Nat.le_of_eq g24.symm))
  have E_b18_24 : Exa Z h24 b18 "StandInLedger$Silence" := E_b18_23.ext E24
  have F_b18_from_24 : Fld Z h24 b18 "StandInLedger$Silence" "from" "J" (.long v6) := F_b18_from_23.ext E24
  have F_b18_until_24 : Fld Z h24 b18 "StandInLedger$Silence" "until" "J" (.long v7) := F_b18_until_23.ext E24
  have E_b20_24 : Exa Z h24 b20 "StandInLedger$Silence" := E_b20_23.ext E24
  have F_b20_from_24 : Fld Z h24 b20 "StandInLedger$Silence" "from" "J" (.long v6) := F_b20_from_23.ext E24
  have F_b20_until_24 : Fld Z h24 b20 "StandInLedger$Silence" "until" "J" (.long v8) := F_b20_until_23.ext E24
  have E_b22_24 : Exa Z h24 b22 "StandInLedger$Silence" := E_b22_23.ext E24
  have F_b22_from_24 : Fld Z h24 b22 "StandInLedger$Silence" "from" "J" (.long v8) := F_b22_from_23.ext E24
  have F_b22_until_24 : Fld Z h24 b22 "StandInLedger$Silence" "until" "J" (.long v7) := F_b22_until_23.ext E24
  have F_b24_from_24 : Fld Z h24 b24 "StandInLedger$Silence" "from" "J" (.long (0 : Int64)) := D24 (Or.inr (hw _ (List.mem_of_getElem? (i := 22) rfl))) (ty := .long) (by decide)
  have F_b24_until_24 : Fld Z h24 b24 "StandInLedger$Silence" "until" "J" (.long (0 : Int64)) := D24 (Or.inr (hw _ (List.mem_of_getElem? (i := 24) rfl))) (ty := .long) (by decide)
  have sz24 : n0 ≤ h24.size := Nat.le_trans sz23 E24.1
  refine own_st ?_ st24
  show own_Fin _ _ _ _ T24 (mkF m 148 #[.val (.long v1), .second, .val (.long v2), .second, .val (.long v3), .second, .val (.long v4), .second, .val (.int v5), .val (.long v6), .second, .val (.long v7), .second, .val (.long v8), .second, .val (.int v9), .val (.long v10), .second, .val (.long v11), .second, .val (.ref b18), .val (.ref b20), .val (.ref b22), .unset, .unset, .unset, .unset, .unset, .unset, .unset, .unset, .unset, .unset, .unset] [(.ref b24)])
  refine own_dup X24 hx (hb hby at_148) (pc' := 149) rfl rfl ?_
  refine own_lload X24 hx (hb hby at_149) (pc' := 151) rfl rfl ?_
  refine own_lload X24 hx (hb hby at_151) (pc' := 153) rfl rfl ?_
  obtain ⟨_, _, ⟨T25, L25, k25, n25⟩, -, X25, ⟨Lc25, hQ25, l25, y25, z25⟩, st25⟩ := X24.specialBack hx (y := (⟨"StandInLedger$Silence", "<init>", "(JJ)V"⟩ : MethodName)) rfl hown (mvT hZ (hw _ (List.mem_of_getElem? (i := 10) rfl))) (mvT hZ (hw _ (List.mem_of_getElem? (i := 11) rfl))) (mvT hZ (hw _ (List.mem_of_getElem? (i := 12) rfl))) (by decide) (backOf (W := 1) (rm3 l Z a0 hw [] b24 v8 v8 (0 : Int64) (0 : Int64) h24 n0 sz24 A24 g_b24 F_b24_from_24 F_b24_until_24) hZ (hw _ (List.mem_of_getElem? (i := 12) rfl)) (hw _ (List.mem_of_getElem? (i := 9) rfl)) (by decide) (by decide)) (g := (mkF m 153 #[.val (.long v1), .second, .val (.long v2), .second, .val (.long v3), .second, .val (.long v4), .second, .val (.int v5), .val (.long v6), .second, .val (.long v7), .second, .val (.long v8), .second, .val (.int v9), .val (.long v10), .second, .val (.long v11), .second, .val (.ref b18), .val (.ref b20), .val (.ref b22), .unset, .unset, .unset, .unset, .unset, .unset, .unset, .unset, .unset, .unset, .unset] [(.long v8), (.long v8), (.ref b24), (.ref b24)])) rfl (by rw [hml]; rfl) (Steps.refl _) (a := b24) (argsL := [(.long v8), (.long v8)]) (rest := [(.ref b24)]) (lenOf pd_2 rfl) rfl (by show 2 * 0 + _ ≤ _; exact Nat.le_of_eq rfl) (hb hby at_153) (fun _ _ => ⟨rfl, e24, (by decide : 4 + 0 ≤ _), (by decide : 8 + 0 ≤ _)⟩)
  dsimp only [Pt.U, Pt.locs, Pt.cells, Pt.slots] at X25 l25 y25 z25 st25 hQ25
  subst l25 y25 z25
  obtain ⟨rfl, N25q, K25', E_b24_25, F_b24_from_25, F_b24_until_25⟩ := hQ25
  have E_b18_25 : Exa Z T25.heap b18 "StandInLedger$Silence" := E_b18_24.keep K25'
  have F_b18_from_25 : Fld Z T25.heap b18 "StandInLedger$Silence" "from" "J" (.long v6) := F_b18_from_24.keep K25' (ninS ne_b18_b24 nin0)
  have F_b18_until_25 : Fld Z T25.heap b18 "StandInLedger$Silence" "until" "J" (.long v7) := F_b18_until_24.keep K25' (ninS ne_b18_b24 nin0)
  have E_b20_25 : Exa Z T25.heap b20 "StandInLedger$Silence" := E_b20_24.keep K25'
  have F_b20_from_25 : Fld Z T25.heap b20 "StandInLedger$Silence" "from" "J" (.long v6) := F_b20_from_24.keep K25' (ninS ne_b20_b24 nin0)
  have F_b20_until_25 : Fld Z T25.heap b20 "StandInLedger$Silence" "until" "J" (.long v8) := F_b20_until_24.keep K25' (ninS ne_b20_b24 nin0)
  have E_b22_25 : Exa Z T25.heap b22 "StandInLedger$Silence" := E_b22_24.keep K25'
  have F_b22_from_25 : Fld Z T25.heap b22 "StandInLedger$Silence" "from" "J" (.long v8) := F_b22_from_24.keep K25' (ninS ne_b22_b24 nin0)
  have F_b22_until_25 : Fld Z T25.heap b22 "StandInLedger$Silence" "until" "J" (.long v7) := F_b22_until_24.keep K25' (ninS ne_b22_b24 nin0)
  have sz25 : n0 ≤ T25.heap.size := Nat.le_trans sz24 K25'.1
  have N25 := Fr.app N23 N25q
  refine own_st ?_ (fun t k => st25.trans k)
  show own_Fin _ _ _ _ T25 (mkF m 156 #[.val (.long v1), .second, .val (.long v2), .second, .val (.long v3), .second, .val (.long v4), .second, .val (.int v5), .val (.long v6), .second, .val (.long v7), .second, .val (.long v8), .second, .val (.int v9), .val (.long v10), .second, .val (.long v11), .second, .val (.ref b18), .val (.ref b20), .val (.ref b22), .unset, .unset, .unset, .unset, .unset, .unset, .unset, .unset, .unset, .unset, .unset] [(.ref b24)])
  refine own_astore X25 hx (hb hby at_156) (pc' := 158) rfl (Ls' := #[.val (.long v1), .second, .val (.long v2), .second, .val (.long v3), .second, .val (.long v4), .second, .val (.int v5), .val (.long v6), .second, .val (.long v7), .second, .val (.long v8), .second, .val (.int v9), .val (.long v10), .second, .val (.long v11), .second, .val (.ref b18), .val (.ref b20), .val (.ref b22), .val (.ref b24), .unset, .unset, .unset, .unset, .unset, .unset, .unset, .unset, .unset, .unset]) rfl rfl ?_
  refine own_aload X25 hx (hb hby at_158) (pc' := 160) rfl rfl rfl ?_
  refine own_lload X25 hx (hb hby at_160) (pc' := 162) rfl rfl ?_
  obtain ⟨cq26, kq26, q26a, q26b, q26c⟩ := isOf hZ rfl E_b18_25
  obtain ⟨_, _, ⟨T26, L26, k26, n26⟩, -, X26, ⟨Lc26, hQ26, l26, y26, z26⟩, st26⟩ := X25.virtualBack hx (y := (⟨"StandInLedger$Silence", "covers", "(J)Z"⟩ : MethodName)) (z := (⟨"StandInLedger$Silence", "covers", "(J)Z"⟩ : MethodName)) hown (mvT hZ (hw _ (List.mem_of_getElem? (i := 25) rfl))) (mvT hZ (hw _ (List.mem_of_getElem? (i := 26) rfl))) (notFace_of_selects (args := #[]) (mvT hZ (hw _ (List.mem_of_getElem? (i := 28) rfl)))) (mvT hZ (hw _ (List.mem_of_getElem? (i := 28) rfl))) (mvT hZ (hw _ (List.mem_of_getElem? (i := 27) rfl))) (by decide) (backOf (W := 0) (rm6 l Z a0 hw [] b18 v11 v6 v7 T25.heap n0 sz25 E_b18_25 F_b18_from_25 F_b18_until_25) hZ (hw _ (List.mem_of_getElem? (i := 29) rfl)) (hw _ (List.mem_of_getElem? (i := 9) rfl)) (by decide) (by decide)) q26a q26c (g := (mkF m 162 #[.val (.long v1), .second, .val (.long v2), .second, .val (.long v3), .second, .val (.long v4), .second, .val (.int v5), .val (.long v6), .second, .val (.long v7), .second, .val (.long v8), .second, .val (.int v9), .val (.long v10), .second, .val (.long v11), .second, .val (.ref b18), .val (.ref b20), .val (.ref b22), .val (.ref b24), .unset, .unset, .unset, .unset, .unset, .unset, .unset, .unset, .unset, .unset] [(.long v11), (.ref b18)])) rfl (by rw [hml]; rfl) (Steps.refl _) (argsL := [(.long v11)]) (rest := []) (lenOf pd_3 rfl) rfl (by show 2 * 0 + _ ≤ _; exact Nat.le_of_eq rfl) (hb hby at_162) (fun _ _ => ⟨rfl, rfl, (by decide : 4 + 0 ≤ _), (by decide : 8 + 0 ≤ _)⟩)
  dsimp only [Pt.U, Pt.locs, Pt.cells, Pt.slots] at X26 l26 y26 z26 st26 hQ26
  subst l26 y26 z26
  obtain ⟨rfl, N26q, e26'⟩ := hQ26
  have N26 := Fr.app N25 N26q
  refine own_st ?_ (fun t k => st26.trans k)
  show own_Fin _ _ _ _ T26 (mkF m 165 #[.val (.long v1), .second, .val (.long v2), .second, .val (.long v3), .second, .val (.long v4), .second, .val (.int v5), .val (.long v6), .second, .val (.long v7), .second, .val (.long v8), .second, .val (.int v9), .val (.long v10), .second, .val (.long v11), .second, .val (.ref b18), .val (.ref b20), .val (.ref b22), .val (.ref b24), .unset, .unset, .unset, .unset, .unset, .unset, .unset, .unset, .unset, .unset] [(.int (own_f6 v11 v6 v7))])
  refine own_istore X26 hx (hb hby at_165) (pc' := 167) rfl (Ls' := #[.val (.long v1), .second, .val (.long v2), .second, .val (.long v3), .second, .val (.long v4), .second, .val (.int v5), .val (.long v6), .second, .val (.long v7), .second, .val (.long v8), .second, .val (.int v9), .val (.long v10), .second, .val (.long v11), .second, .val (.ref b18), .val (.ref b20), .val (.ref b22), .val (.ref b24), .val (.int (own_f6 v11 v6 v7)), .unset, .unset, .unset, .unset, .unset, .unset, .unset, .unset, .unset]) rfl ?_
  refine own_aload X26 hx (hb hby at_167) (pc' := 169) rfl rfl rfl ?_
  refine own_lload X26 hx (hb hby at_169) (pc' := 171) rfl rfl ?_
  obtain ⟨cq27, kq27, q27a, q27b, q27c⟩ := isOf hZ e26' E_b20_25
  obtain ⟨_, _, ⟨T27, L27, k27, n27⟩, -, X27, ⟨Lc27, hQ27, l27, y27, z27⟩, st27⟩ := X26.virtualBack hx (y := (⟨"StandInLedger$Silence", "covers", "(J)Z"⟩ : MethodName)) (z := (⟨"StandInLedger$Silence", "covers", "(J)Z"⟩ : MethodName)) hown (mvT hZ (hw _ (List.mem_of_getElem? (i := 25) rfl))) (mvT hZ (hw _ (List.mem_of_getElem? (i := 26) rfl))) (notFace_of_selects (args := #[]) (mvT hZ (hw _ (List.mem_of_getElem? (i := 28) rfl)))) (mvT hZ (hw _ (List.mem_of_getElem? (i := 28) rfl))) (mvT hZ (hw _ (List.mem_of_getElem? (i := 27) rfl))) (by decide) (backOf (W := 0) (rm6 l Z a0 hw [] b20 v11 v6 v8 T25.heap n0 sz25 E_b20_25 F_b20_from_25 F_b20_until_25) hZ (hw _ (List.mem_of_getElem? (i := 29) rfl)) (hw _ (List.mem_of_getElem? (i := 9) rfl)) (by decide) (by decide)) q27a q27c (g := (mkF m 171 #[.val (.long v1), .second, .val (.long v2), .second, .val (.long v3), .second, .val (.long v4), .second, .val (.int v5), .val (.long v6), .second, .val (.long v7), .second, .val (.long v8), .second, .val (.int v9), .val (.long v10), .second, .val (.long v11), .second, .val (.ref b18), .val (.ref b20), .val (.ref b22), .val (.ref b24), .val (.int (own_f6 v11 v6 v7)), .unset, .unset, .unset, .unset, .unset, .unset, .unset, .unset, .unset] [(.long v11), (.ref b20)])) rfl (by rw [hml]; rfl) (Steps.refl _) (argsL := [(.long v11)]) (rest := []) (lenOf pd_3 rfl) rfl (by show 2 * 0 + _ ≤ _; exact Nat.le_of_eq rfl) (hb hby at_171) (fun _ _ => ⟨rfl, e26', (by decide : 4 + 0 ≤ _), (by decide : 8 + 0 ≤ _)⟩)
  dsimp only [Pt.U, Pt.locs, Pt.cells, Pt.slots] at X27 l27 y27 z27 st27 hQ27
  subst l27 y27 z27
  obtain ⟨rfl, N27q, e27'⟩ := hQ27
  have N27 := Fr.app N26 N27q
  refine own_st ?_ (fun t k => st27.trans k)
  show own_Fin _ _ _ _ T27 (mkF m 174 #[.val (.long v1), .second, .val (.long v2), .second, .val (.long v3), .second, .val (.long v4), .second, .val (.int v5), .val (.long v6), .second, .val (.long v7), .second, .val (.long v8), .second, .val (.int v9), .val (.long v10), .second, .val (.long v11), .second, .val (.ref b18), .val (.ref b20), .val (.ref b22), .val (.ref b24), .val (.int (own_f6 v11 v6 v7)), .unset, .unset, .unset, .unset, .unset, .unset, .unset, .unset, .unset] [(.int (own_f6 v11 v6 v8))])
  refine own_istore X27 hx (hb hby at_174) (pc' := 176) rfl (Ls' := #[.val (.long v1), .second, .val (.long v2), .second, .val (.long v3), .second, .val (.long v4), .second, .val (.int v5), .val (.long v6), .second, .val (.long v7), .second, .val (.long v8), .second, .val (.int v9), .val (.long v10), .second, .val (.long v11), .second, .val (.ref b18), .val (.ref b20), .val (.ref b22), .val (.ref b24), .val (.int (own_f6 v11 v6 v7)), .val (.int (own_f6 v11 v6 v8)), .unset, .unset, .unset, .unset, .unset, .unset, .unset, .unset]) rfl ?_
  refine own_aload X27 hx (hb hby at_176) (pc' := 178) rfl rfl rfl ?_
  refine own_lload X27 hx (hb hby at_178) (pc' := 180) rfl rfl ?_
  obtain ⟨cq28, kq28, q28a, q28b, q28c⟩ := isOf hZ e27' E_b22_25
  obtain ⟨_, _, ⟨T28, L28, k28, n28⟩, -, X28, ⟨Lc28, hQ28, l28, y28, z28⟩, st28⟩ := X27.virtualBack hx (y := (⟨"StandInLedger$Silence", "covers", "(J)Z"⟩ : MethodName)) (z := (⟨"StandInLedger$Silence", "covers", "(J)Z"⟩ : MethodName)) hown (mvT hZ (hw _ (List.mem_of_getElem? (i := 25) rfl))) (mvT hZ (hw _ (List.mem_of_getElem? (i := 26) rfl))) (notFace_of_selects (args := #[]) (mvT hZ (hw _ (List.mem_of_getElem? (i := 28) rfl)))) (mvT hZ (hw _ (List.mem_of_getElem? (i := 28) rfl))) (mvT hZ (hw _ (List.mem_of_getElem? (i := 27) rfl))) (by decide) (backOf (W := 0) (rm6 l Z a0 hw [] b22 v11 v8 v7 T25.heap n0 sz25 E_b22_25 F_b22_from_25 F_b22_until_25) hZ (hw _ (List.mem_of_getElem? (i := 29) rfl)) (hw _ (List.mem_of_getElem? (i := 9) rfl)) (by decide) (by decide)) q28a q28c (g := (mkF m 180 #[.val (.long v1), .second, .val (.long v2), .second, .val (.long v3), .second, .val (.long v4), .second, .val (.int v5), .val (.long v6), .second, .val (.long v7), .second, .val (.long v8), .second, .val (.int v9), .val (.long v10), .second, .val (.long v11), .second, .val (.ref b18), .val (.ref b20), .val (.ref b22), .val (.ref b24), .val (.int (own_f6 v11 v6 v7)), .val (.int (own_f6 v11 v6 v8)), .unset, .unset, .unset, .unset, .unset, .unset, .unset, .unset] [(.long v11), (.ref b22)])) rfl (by rw [hml]; rfl) (Steps.refl _) (argsL := [(.long v11)]) (rest := []) (lenOf pd_3 rfl) rfl (by show 2 * 0 + _ ≤ _; exact Nat.le_of_eq rfl) (hb hby at_180) (fun _ _ => ⟨rfl, e27', (by decide : 4 + 0 ≤ _), (by decide : 8 + 0 ≤ _)⟩)
  dsimp only [Pt.U, Pt.locs, Pt.cells, Pt.slots] at X28 l28 y28 z28 st28 hQ28
  subst l28 y28 z28
  obtain ⟨rfl, N28q, e28'⟩ := hQ28
  have N28 := Fr.app N27 N28q
  refine own_st ?_ (fun t k => st28.trans k)
  show own_Fin _ _ _ _ T28 (mkF m 183 #[.val (.long v1), .second, .val (.long v2), .second, .val (.long v3), .second, .val (.long v4), .second, .val (.int v5), .val (.long v6), .second, .val (.long v7), .second, .val (.long v8), .second, .val (.int v9), .val (.long v10), .second, .val (.long v11), .second, .val (.ref b18), .val (.ref b20), .val (.ref b22), .val (.ref b24), .val (.int (own_f6 v11 v6 v7)), .val (.int (own_f6 v11 v6 v8)), .unset, .unset, .unset, .unset, .unset, .unset, .unset, .unset] [(.int (own_f6 v11 v8 v7))])
  refine own_istore X28 hx (hb hby at_183) (pc' := 185) rfl (Ls' := #[.val (.long v1), .second, .val (.long v2), .second, .val (.long v3), .second, .val (.long v4), .second, .val (.int v5), .val (.long v6), .second, .val (.long v7), .second, .val (.long v8), .second, .val (.int v9), .val (.long v10), .second, .val (.long v11), .second, .val (.ref b18), .val (.ref b20), .val (.ref b22), .val (.ref b24), .val (.int (own_f6 v11 v6 v7)), .val (.int (own_f6 v11 v6 v8)), .val (.int (own_f6 v11 v8 v7)), .unset, .unset, .unset, .unset, .unset, .unset, .unset]) rfl ?_
  refine own_aload X28 hx (hb hby at_185) (pc' := 187) rfl rfl rfl ?_
  refine own_lload X28 hx (hb hby at_187) (pc' := 189) rfl rfl ?_
  obtain ⟨cq29, kq29, q29a, q29b, q29c⟩ := isOf hZ e28' E_b24_25
  obtain ⟨_, _, ⟨T29, L29, k29, n29⟩, -, X29, ⟨Lc29, hQ29, l29, y29, z29⟩, st29⟩ := X28.virtualBack hx (y := (⟨"StandInLedger$Silence", "covers", "(J)Z"⟩ : MethodName)) (z := (⟨"StandInLedger$Silence", "covers", "(J)Z"⟩ : MethodName)) hown (mvT hZ (hw _ (List.mem_of_getElem? (i := 25) rfl))) (mvT hZ (hw _ (List.mem_of_getElem? (i := 26) rfl))) (notFace_of_selects (args := #[]) (mvT hZ (hw _ (List.mem_of_getElem? (i := 28) rfl)))) (mvT hZ (hw _ (List.mem_of_getElem? (i := 28) rfl))) (mvT hZ (hw _ (List.mem_of_getElem? (i := 27) rfl))) (by decide) (backOf (W := 0) (rm6 l Z a0 hw [] b24 v11 v8 v8 T25.heap n0 sz25 E_b24_25 F_b24_from_25 F_b24_until_25) hZ (hw _ (List.mem_of_getElem? (i := 29) rfl)) (hw _ (List.mem_of_getElem? (i := 9) rfl)) (by decide) (by decide)) q29a q29c (g := (mkF m 189 #[.val (.long v1), .second, .val (.long v2), .second, .val (.long v3), .second, .val (.long v4), .second, .val (.int v5), .val (.long v6), .second, .val (.long v7), .second, .val (.long v8), .second, .val (.int v9), .val (.long v10), .second, .val (.long v11), .second, .val (.ref b18), .val (.ref b20), .val (.ref b22), .val (.ref b24), .val (.int (own_f6 v11 v6 v7)), .val (.int (own_f6 v11 v6 v8)), .val (.int (own_f6 v11 v8 v7)), .unset, .unset, .unset, .unset, .unset, .unset, .unset] [(.long v11), (.ref b24)])) rfl (by rw [hml]; rfl) (Steps.refl _) (argsL := [(.long v11)]) (rest := []) (lenOf pd_3 rfl) rfl (by show 2 * 0 + _ ≤ _; exact Nat.le_of_eq rfl) (hb hby at_189) (fun _ _ => ⟨rfl, e28', (by decide : 4 + 0 ≤ _), (by decide : 8 + 0 ≤ _)⟩)
  dsimp only [Pt.U, Pt.locs, Pt.cells, Pt.slots] at X29 l29 y29 z29 st29 hQ29
  subst l29 y29 z29
  obtain ⟨rfl, N29q, e29'⟩ := hQ29
  have N29 := Fr.app N28 N29q
  refine own_st ?_ (fun t k => st29.trans k)
  show own_Fin _ _ _ _ T29 (mkF m 192 #[.val (.long v1), .second, .val (.long v2), .second, .val (.long v3), .second, .val (.long v4), .second, .val (.int v5), .val (.long v6), .second, .val (.long v7), .second, .val (.long v8), .second, .val (.int v9), .val (.long v10), .second, .val (.long v11), .second, .val (.ref b18), .val (.ref b20), .val (.ref b22), .val (.ref b24), .val (.int (own_f6 v11 v6 v7)), .val (.int (own_f6 v11 v6 v8)), .val (.int (own_f6 v11 v8 v7)), .unset, .unset, .unset, .unset, .unset, .unset, .unset] [(.int (own_f6 v11 v8 v8))])
  refine own_istore X29 hx (hb hby at_192) (pc' := 194) rfl (Ls' := #[.val (.long v1), .second, .val (.long v2), .second, .val (.long v3), .second, .val (.long v4), .second, .val (.int v5), .val (.long v6), .second, .val (.long v7), .second, .val (.long v8), .second, .val (.int v9), .val (.long v10), .second, .val (.long v11), .second, .val (.ref b18), .val (.ref b20), .val (.ref b22), .val (.ref b24), .val (.int (own_f6 v11 v6 v7)), .val (.int (own_f6 v11 v6 v8)), .val (.int (own_f6 v11 v8 v7)), .val (.int (own_f6 v11 v8 v8)), .unset, .unset, .unset, .unset, .unset, .unset]) rfl ?_
  refine own_aload X29 hx (hb hby at_194) (pc' := 196) rfl rfl rfl ?_
  refine own_lload X29 hx (hb hby at_196) (pc' := 198) rfl rfl ?_
  obtain ⟨cq30, kq30, q30a, q30b, q30c⟩ := isOf hZ e29' E_b18_25
  obtain ⟨_, _, ⟨T30, L30, k30, n30⟩, -, X30, ⟨Lc30, hQ30, l30, y30, z30⟩, st30⟩ := X29.virtualBack hx (y := (⟨"StandInLedger$Silence", "covers", "(J)Z"⟩ : MethodName)) (z := (⟨"StandInLedger$Silence", "covers", "(J)Z"⟩ : MethodName)) hown (mvT hZ (hw _ (List.mem_of_getElem? (i := 25) rfl))) (mvT hZ (hw _ (List.mem_of_getElem? (i := 26) rfl))) (notFace_of_selects (args := #[]) (mvT hZ (hw _ (List.mem_of_getElem? (i := 28) rfl)))) (mvT hZ (hw _ (List.mem_of_getElem? (i := 28) rfl))) (mvT hZ (hw _ (List.mem_of_getElem? (i := 27) rfl))) (by decide) (backOf (W := 0) (rm6 l Z a0 hw [] b18 v7 v6 v7 T25.heap n0 sz25 E_b18_25 F_b18_from_25 F_b18_until_25) hZ (hw _ (List.mem_of_getElem? (i := 29) rfl)) (hw _ (List.mem_of_getElem? (i := 9) rfl)) (by decide) (by decide)) q30a q30c (g := (mkF m 198 #[.val (.long v1), .second, .val (.long v2), .second, .val (.long v3), .second, .val (.long v4), .second, .val (.int v5), .val (.long v6), .second, .val (.long v7), .second, .val (.long v8), .second, .val (.int v9), .val (.long v10), .second, .val (.long v11), .second, .val (.ref b18), .val (.ref b20), .val (.ref b22), .val (.ref b24), .val (.int (own_f6 v11 v6 v7)), .val (.int (own_f6 v11 v6 v8)), .val (.int (own_f6 v11 v8 v7)), .val (.int (own_f6 v11 v8 v8)), .unset, .unset, .unset, .unset, .unset, .unset] [(.long v7), (.ref b18)])) rfl (by rw [hml]; rfl) (Steps.refl _) (argsL := [(.long v7)]) (rest := []) (lenOf pd_3 rfl) rfl (by show 2 * 0 + _ ≤ _; exact Nat.le_of_eq rfl) (hb hby at_198) (fun _ _ => ⟨rfl, e29', (by decide : 4 + 0 ≤ _), (by decide : 8 + 0 ≤ _)⟩)
  dsimp only [Pt.U, Pt.locs, Pt.cells, Pt.slots] at X30 l30 y30 z30 st30 hQ30
  subst l30 y30 z30
  obtain ⟨rfl, N30q, e30'⟩ := hQ30
  have N30 := Fr.app N29 N30q
  refine own_st ?_ (fun t k => st30.trans k)
  show own_Fin _ _ _ _ T30 (mkF m 201 #[.val (.long v1), .second, .val (.long v2), .second, .val (.long v3), .second, .val (.long v4), .second, .val (.int v5), .val (.long v6), .second, .val (.long v7), .second, .val (.long v8), .second, .val (.int v9), .val (.long v10), .second, .val (.long v11), .second, .val (.ref b18), .val (.ref b20), .val (.ref b22), .val (.ref b24), .val (.int (own_f6 v11 v6 v7)), .val (.int (own_f6 v11 v6 v8)), .val (.int (own_f6 v11 v8 v7)), .val (.int (own_f6 v11 v8 v8)), .unset, .unset, .unset, .unset, .unset, .unset] [(.int (own_f6 v7 v6 v7))])
  by_cases hc31 : (own_f6 v7 v6 v7) = (0 : Int32)
  · refine own_ifNo X30 hx (hb hby at_201) (pc' := 204) rfl ((if0 _ _).trans (teq hc31).2) ?_
    refine own_iconst X30 hx (hb hby at_204) (pc' := 205) rfl (v := (1 : Int32)) rfl ?_
    refine own_goto X30 hx (hb hby at_205) (pc' := 209) (by decide) (by decide) ?_
    refine own_istore X30 hx (hb hby at_209) (pc' := 211) rfl (Ls' := #[.val (.long v1), .second, .val (.long v2), .second, .val (.long v3), .second, .val (.long v4), .second, .val (.int v5), .val (.long v6), .second, .val (.long v7), .second, .val (.long v8), .second, .val (.int v9), .val (.long v10), .second, .val (.long v11), .second, .val (.ref b18), .val (.ref b20), .val (.ref b22), .val (.ref b24), .val (.int (own_f6 v11 v6 v7)), .val (.int (own_f6 v11 v6 v8)), .val (.int (own_f6 v11 v8 v7)), .val (.int (own_f6 v11 v8 v8)), .val (.int (1 : Int32)), .unset, .unset, .unset, .unset, .unset]) rfl ?_
    refine own_aload X30 hx (hb hby at_211) (pc' := 213) rfl rfl rfl ?_
    refine own_lload X30 hx (hb hby at_213) (pc' := 215) rfl rfl ?_
    obtain ⟨cq32, kq32, q32a, q32b, q32c⟩ := isOf hZ e30' E_b18_25
    obtain ⟨_, _, ⟨T32, L32, k32, n32⟩, -, X32, ⟨Lc32, hQ32, l32, y32, z32⟩, st32⟩ := X30.virtualBack hx (y := (⟨"StandInLedger$Silence", "covers", "(J)Z"⟩ : MethodName)) (z := (⟨"StandInLedger$Silence", "covers", "(J)Z"⟩ : MethodName)) hown (mvT hZ (hw _ (List.mem_of_getElem? (i := 25) rfl))) (mvT hZ (hw _ (List.mem_of_getElem? (i := 26) rfl))) (notFace_of_selects (args := #[]) (mvT hZ (hw _ (List.mem_of_getElem? (i := 28) rfl)))) (mvT hZ (hw _ (List.mem_of_getElem? (i := 28) rfl))) (mvT hZ (hw _ (List.mem_of_getElem? (i := 27) rfl))) (by decide) (backOf (W := 0) (rm6 l Z a0 hw [] b18 v6 v6 v7 T25.heap n0 sz25 E_b18_25 F_b18_from_25 F_b18_until_25) hZ (hw _ (List.mem_of_getElem? (i := 29) rfl)) (hw _ (List.mem_of_getElem? (i := 9) rfl)) (by decide) (by decide)) q32a q32c (g := (mkF m 215 #[.val (.long v1), .second, .val (.long v2), .second, .val (.long v3), .second, .val (.long v4), .second, .val (.int v5), .val (.long v6), .second, .val (.long v7), .second, .val (.long v8), .second, .val (.int v9), .val (.long v10), .second, .val (.long v11), .second, .val (.ref b18), .val (.ref b20), .val (.ref b22), .val (.ref b24), .val (.int (own_f6 v11 v6 v7)), .val (.int (own_f6 v11 v6 v8)), .val (.int (own_f6 v11 v8 v7)), .val (.int (own_f6 v11 v8 v8)), .val (.int (1 : Int32)), .unset, .unset, .unset, .unset, .unset] [(.long v6), (.ref b18)])) rfl (by rw [hml]; rfl) (Steps.refl _) (argsL := [(.long v6)]) (rest := []) (lenOf pd_3 rfl) rfl (by show 2 * 0 + _ ≤ _; exact Nat.le_of_eq rfl) (hb hby at_215) (fun _ _ => ⟨rfl, e30', (by decide : 4 + 0 ≤ _), (by decide : 8 + 0 ≤ _)⟩)
    dsimp only [Pt.U, Pt.locs, Pt.cells, Pt.slots] at X32 l32 y32 z32 st32 hQ32
    subst l32 y32 z32
    obtain ⟨rfl, N32q, e32'⟩ := hQ32
    have N32 := Fr.app N30 N32q
    refine own_st ?_ (fun t k => st32.trans k)
    show own_Fin _ _ _ _ T32 (mkF m 218 #[.val (.long v1), .second, .val (.long v2), .second, .val (.long v3), .second, .val (.long v4), .second, .val (.int v5), .val (.long v6), .second, .val (.long v7), .second, .val (.long v8), .second, .val (.int v9), .val (.long v10), .second, .val (.long v11), .second, .val (.ref b18), .val (.ref b20), .val (.ref b22), .val (.ref b24), .val (.int (own_f6 v11 v6 v7)), .val (.int (own_f6 v11 v6 v8)), .val (.int (own_f6 v11 v8 v7)), .val (.int (own_f6 v11 v8 v8)), .val (.int (1 : Int32)), .unset, .unset, .unset, .unset, .unset] [(.int (own_f6 v6 v6 v7))])
    refine own_lload X32 hx (hb hby at_218) (pc' := 220) rfl rfl ?_
    refine own_lload X32 hx (hb hby at_220) (pc' := 222) rfl rfl ?_
    refine own_lcmp X32 hx (hb hby at_222) (pc' := 223) rfl ?_
    by_cases hc33 : v6 < v7
    · refine own_ifNo X32 hx (hb hby at_223) (pc' := 226) rfl ((if0 _ _).trans (tlt (own_lc_lt.mpr hc33)).2.1) ?_
      refine own_iconst X32 hx (hb hby at_226) (pc' := 227) rfl (v := (1 : Int32)) rfl ?_
      refine own_goto X32 hx (hb hby at_227) (pc' := 231) (by decide) (by decide) ?_
      by_cases hc34 : (own_f6 v6 v6 v7) = (1 : Int32)
      · refine own_icmpNo X32 hx (hb hby at_231) (pc' := 234) rfl (teq hc34).2 ?_
        refine own_iconst X32 hx (hb hby at_234) (pc' := 235) rfl (v := (1 : Int32)) rfl ?_
        refine own_goto X32 hx (hb hby at_235) (pc' := 239) (by decide) (by decide) ?_
        refine own_istore X32 hx (hb hby at_239) (pc' := 241) rfl (Ls' := #[.val (.long v1), .second, .val (.long v2), .second, .val (.long v3), .second, .val (.long v4), .second, .val (.int v5), .val (.long v6), .second, .val (.long v7), .second, .val (.long v8), .second, .val (.int v9), .val (.long v10), .second, .val (.long v11), .second, .val (.ref b18), .val (.ref b20), .val (.ref b22), .val (.ref b24), .val (.int (own_f6 v11 v6 v7)), .val (.int (own_f6 v11 v6 v8)), .val (.int (own_f6 v11 v8 v7)), .val (.int (own_f6 v11 v8 v8)), .val (.int (1 : Int32)), .val (.int (1 : Int32)), .unset, .unset, .unset, .unset]) rfl ?_
        refine own_cast ?_ (sg0_241 l hw hx hZ hby hml hown hnm hret hlk v1 v2 v3 v4 v5 v6 v7 v8 v9 v10 v11 b18 b20 b22 b24 (own_f6 v11 v6 v7) (own_f6 v11 v6 v8) (own_f6 v11 v8 v7) (own_f6 v11 v8 v8) (1 : Int32) (1 : Int32) sz25 X32 N32 e32')
        rw [own_f0_106, if_pos hc31, if_pos hc33, if_pos hc34]
      · refine own_icmpYes X32 hx (hb hby at_231) (feq hc34).2 (pc' := 238) (by decide) (by decide) ?_
        refine own_iconst X32 hx (hb hby at_238) (pc' := 239) rfl (v := (0 : Int32)) rfl ?_
        refine own_istore X32 hx (hb hby at_239) (pc' := 241) rfl (Ls' := #[.val (.long v1), .second, .val (.long v2), .second, .val (.long v3), .second, .val (.long v4), .second, .val (.int v5), .val (.long v6), .second, .val (.long v7), .second, .val (.long v8), .second, .val (.int v9), .val (.long v10), .second, .val (.long v11), .second, .val (.ref b18), .val (.ref b20), .val (.ref b22), .val (.ref b24), .val (.int (own_f6 v11 v6 v7)), .val (.int (own_f6 v11 v6 v8)), .val (.int (own_f6 v11 v8 v7)), .val (.int (own_f6 v11 v8 v8)), .val (.int (1 : Int32)), .val (.int (0 : Int32)), .unset, .unset, .unset, .unset]) rfl ?_
        refine own_cast ?_ (sg0_241 l hw hx hZ hby hml hown hnm hret hlk v1 v2 v3 v4 v5 v6 v7 v8 v9 v10 v11 b18 b20 b22 b24 (own_f6 v11 v6 v7) (own_f6 v11 v6 v8) (own_f6 v11 v8 v7) (own_f6 v11 v8 v8) (1 : Int32) (0 : Int32) sz25 X32 N32 e32')
        rw [own_f0_106, if_pos hc31, if_pos hc33, if_neg hc34]
    · refine own_ifYes X32 hx (hb hby at_223) ((if0 _ _).trans (flt (mt own_lc_lt.mp hc33)).2.1) (pc' := 230) (by decide) (by decide) ?_
      refine own_iconst X32 hx (hb hby at_230) (pc' := 231) rfl (v := (0 : Int32)) rfl ?_
      by_cases hc35 : (own_f6 v6 v6 v7) = (0 : Int32)
      · refine own_icmpNo X32 hx (hb hby at_231) (pc' := 234) rfl (teq hc35).2 ?_
        refine own_iconst X32 hx (hb hby at_234) (pc' := 235) rfl (v := (1 : Int32)) rfl ?_
        refine own_goto X32 hx (hb hby at_235) (pc' := 239) (by decide) (by decide) ?_
        refine own_istore X32 hx (hb hby at_239) (pc' := 241) rfl (Ls' := #[.val (.long v1), .second, .val (.long v2), .second, .val (.long v3), .second, .val (.long v4), .second, .val (.int v5), .val (.long v6), .second, .val (.long v7), .second, .val (.long v8), .second, .val (.int v9), .val (.long v10), .second, .val (.long v11), .second, .val (.ref b18), .val (.ref b20), .val (.ref b22), .val (.ref b24), .val (.int (own_f6 v11 v6 v7)), .val (.int (own_f6 v11 v6 v8)), .val (.int (own_f6 v11 v8 v7)), .val (.int (own_f6 v11 v8 v8)), .val (.int (1 : Int32)), .val (.int (1 : Int32)), .unset, .unset, .unset, .unset]) rfl ?_
        refine own_cast ?_ (sg0_241 l hw hx hZ hby hml hown hnm hret hlk v1 v2 v3 v4 v5 v6 v7 v8 v9 v10 v11 b18 b20 b22 b24 (own_f6 v11 v6 v7) (own_f6 v11 v6 v8) (own_f6 v11 v8 v7) (own_f6 v11 v8 v8) (1 : Int32) (1 : Int32) sz25 X32 N32 e32')
        rw [own_f0_106, if_pos hc31, if_neg hc33, if_pos hc35]
      · refine own_icmpYes X32 hx (hb hby at_231) (feq hc35).2 (pc' := 238) (by decide) (by decide) ?_
        refine own_iconst X32 hx (hb hby at_238) (pc' := 239) rfl (v := (0 : Int32)) rfl ?_
        refine own_istore X32 hx (hb hby at_239) (pc' := 241) rfl (Ls' := #[.val (.long v1), .second, .val (.long v2), .second, .val (.long v3), .second, .val (.long v4), .second, .val (.int v5), .val (.long v6), .second, .val (.long v7), .second, .val (.long v8), .second, .val (.int v9), .val (.long v10), .second, .val (.long v11), .second, .val (.ref b18), .val (.ref b20), .val (.ref b22), .val (.ref b24), .val (.int (own_f6 v11 v6 v7)), .val (.int (own_f6 v11 v6 v8)), .val (.int (own_f6 v11 v8 v7)), .val (.int (own_f6 v11 v8 v8)), .val (.int (1 : Int32)), .val (.int (0 : Int32)), .unset, .unset, .unset, .unset]) rfl ?_
        refine own_cast ?_ (sg0_241 l hw hx hZ hby hml hown hnm hret hlk v1 v2 v3 v4 v5 v6 v7 v8 v9 v10 v11 b18 b20 b22 b24 (own_f6 v11 v6 v7) (own_f6 v11 v6 v8) (own_f6 v11 v8 v7) (own_f6 v11 v8 v8) (1 : Int32) (0 : Int32) sz25 X32 N32 e32')
        rw [own_f0_106, if_pos hc31, if_neg hc33, if_neg hc35]
  · refine own_ifYes X30 hx (hb hby at_201) ((if0 _ _).trans (feq hc31).2) (pc' := 208) (by decide) (by decide) ?_
    refine own_iconst X30 hx (hb hby at_208) (pc' := 209) rfl (v := (0 : Int32)) rfl ?_
    refine own_istore X30 hx (hb hby at_209) (pc' := 211) rfl (Ls' := #[.val (.long v1), .second, .val (.long v2), .second, .val (.long v3), .second, .val (.long v4), .second, .val (.int v5), .val (.long v6), .second, .val (.long v7), .second, .val (.long v8), .second, .val (.int v9), .val (.long v10), .second, .val (.long v11), .second, .val (.ref b18), .val (.ref b20), .val (.ref b22), .val (.ref b24), .val (.int (own_f6 v11 v6 v7)), .val (.int (own_f6 v11 v6 v8)), .val (.int (own_f6 v11 v8 v7)), .val (.int (own_f6 v11 v8 v8)), .val (.int (0 : Int32)), .unset, .unset, .unset, .unset, .unset]) rfl ?_
    refine own_aload X30 hx (hb hby at_211) (pc' := 213) rfl rfl rfl ?_
    refine own_lload X30 hx (hb hby at_213) (pc' := 215) rfl rfl ?_
    obtain ⟨cq36, kq36, q36a, q36b, q36c⟩ := isOf hZ e30' E_b18_25
    obtain ⟨_, _, ⟨T36, L36, k36, n36⟩, -, X36, ⟨Lc36, hQ36, l36, y36, z36⟩, st36⟩ := X30.virtualBack hx (y := (⟨"StandInLedger$Silence", "covers", "(J)Z"⟩ : MethodName)) (z := (⟨"StandInLedger$Silence", "covers", "(J)Z"⟩ : MethodName)) hown (mvT hZ (hw _ (List.mem_of_getElem? (i := 25) rfl))) (mvT hZ (hw _ (List.mem_of_getElem? (i := 26) rfl))) (notFace_of_selects (args := #[]) (mvT hZ (hw _ (List.mem_of_getElem? (i := 28) rfl)))) (mvT hZ (hw _ (List.mem_of_getElem? (i := 28) rfl))) (mvT hZ (hw _ (List.mem_of_getElem? (i := 27) rfl))) (by decide) (backOf (W := 0) (rm6 l Z a0 hw [] b18 v6 v6 v7 T25.heap n0 sz25 E_b18_25 F_b18_from_25 F_b18_until_25) hZ (hw _ (List.mem_of_getElem? (i := 29) rfl)) (hw _ (List.mem_of_getElem? (i := 9) rfl)) (by decide) (by decide)) q36a q36c (g := (mkF m 215 #[.val (.long v1), .second, .val (.long v2), .second, .val (.long v3), .second, .val (.long v4), .second, .val (.int v5), .val (.long v6), .second, .val (.long v7), .second, .val (.long v8), .second, .val (.int v9), .val (.long v10), .second, .val (.long v11), .second, .val (.ref b18), .val (.ref b20), .val (.ref b22), .val (.ref b24), .val (.int (own_f6 v11 v6 v7)), .val (.int (own_f6 v11 v6 v8)), .val (.int (own_f6 v11 v8 v7)), .val (.int (own_f6 v11 v8 v8)), .val (.int (0 : Int32)), .unset, .unset, .unset, .unset, .unset] [(.long v6), (.ref b18)])) rfl (by rw [hml]; rfl) (Steps.refl _) (argsL := [(.long v6)]) (rest := []) (lenOf pd_3 rfl) rfl (by show 2 * 0 + _ ≤ _; exact Nat.le_of_eq rfl) (hb hby at_215) (fun _ _ => ⟨rfl, e30', (by decide : 4 + 0 ≤ _), (by decide : 8 + 0 ≤ _)⟩)
    dsimp only [Pt.U, Pt.locs, Pt.cells, Pt.slots] at X36 l36 y36 z36 st36 hQ36
    subst l36 y36 z36
    obtain ⟨rfl, N36q, e36'⟩ := hQ36
    have N36 := Fr.app N30 N36q
    refine own_st ?_ (fun t k => st36.trans k)
    show own_Fin _ _ _ _ T36 (mkF m 218 #[.val (.long v1), .second, .val (.long v2), .second, .val (.long v3), .second, .val (.long v4), .second, .val (.int v5), .val (.long v6), .second, .val (.long v7), .second, .val (.long v8), .second, .val (.int v9), .val (.long v10), .second, .val (.long v11), .second, .val (.ref b18), .val (.ref b20), .val (.ref b22), .val (.ref b24), .val (.int (own_f6 v11 v6 v7)), .val (.int (own_f6 v11 v6 v8)), .val (.int (own_f6 v11 v8 v7)), .val (.int (own_f6 v11 v8 v8)), .val (.int (0 : Int32)), .unset, .unset, .unset, .unset, .unset] [(.int (own_f6 v6 v6 v7))])
    refine own_lload X36 hx (hb hby at_218) (pc' := 220) rfl rfl ?_
    refine own_lload X36 hx (hb hby at_220) (pc' := 222) rfl rfl ?_
    refine own_lcmp X36 hx (hb hby at_222) (pc' := 223) rfl ?_
    by_cases hc37 : v6 < v7
    · refine own_ifNo X36 hx (hb hby at_223) (pc' := 226) rfl ((if0 _ _).trans (tlt (own_lc_lt.mpr hc37)).2.1) ?_
      refine own_iconst X36 hx (hb hby at_226) (pc' := 227) rfl (v := (1 : Int32)) rfl ?_
      refine own_goto X36 hx (hb hby at_227) (pc' := 231) (by decide) (by decide) ?_
      by_cases hc38 : (own_f6 v6 v6 v7) = (1 : Int32)
      · refine own_icmpNo X36 hx (hb hby at_231) (pc' := 234) rfl (teq hc38).2 ?_
        refine own_iconst X36 hx (hb hby at_234) (pc' := 235) rfl (v := (1 : Int32)) rfl ?_
        refine own_goto X36 hx (hb hby at_235) (pc' := 239) (by decide) (by decide) ?_
        refine own_istore X36 hx (hb hby at_239) (pc' := 241) rfl (Ls' := #[.val (.long v1), .second, .val (.long v2), .second, .val (.long v3), .second, .val (.long v4), .second, .val (.int v5), .val (.long v6), .second, .val (.long v7), .second, .val (.long v8), .second, .val (.int v9), .val (.long v10), .second, .val (.long v11), .second, .val (.ref b18), .val (.ref b20), .val (.ref b22), .val (.ref b24), .val (.int (own_f6 v11 v6 v7)), .val (.int (own_f6 v11 v6 v8)), .val (.int (own_f6 v11 v8 v7)), .val (.int (own_f6 v11 v8 v8)), .val (.int (0 : Int32)), .val (.int (1 : Int32)), .unset, .unset, .unset, .unset]) rfl ?_
        refine own_cast ?_ (sg0_241 l hw hx hZ hby hml hown hnm hret hlk v1 v2 v3 v4 v5 v6 v7 v8 v9 v10 v11 b18 b20 b22 b24 (own_f6 v11 v6 v7) (own_f6 v11 v6 v8) (own_f6 v11 v8 v7) (own_f6 v11 v8 v8) (0 : Int32) (1 : Int32) sz25 X36 N36 e36')
        rw [own_f0_106, if_neg hc31, if_pos hc37, if_pos hc38]
      · refine own_icmpYes X36 hx (hb hby at_231) (feq hc38).2 (pc' := 238) (by decide) (by decide) ?_
        refine own_iconst X36 hx (hb hby at_238) (pc' := 239) rfl (v := (0 : Int32)) rfl ?_
        refine own_istore X36 hx (hb hby at_239) (pc' := 241) rfl (Ls' := #[.val (.long v1), .second, .val (.long v2), .second, .val (.long v3), .second, .val (.long v4), .second, .val (.int v5), .val (.long v6), .second, .val (.long v7), .second, .val (.long v8), .second, .val (.int v9), .val (.long v10), .second, .val (.long v11), .second, .val (.ref b18), .val (.ref b20), .val (.ref b22), .val (.ref b24), .val (.int (own_f6 v11 v6 v7)), .val (.int (own_f6 v11 v6 v8)), .val (.int (own_f6 v11 v8 v7)), .val (.int (own_f6 v11 v8 v8)), .val (.int (0 : Int32)), .val (.int (0 : Int32)), .unset, .unset, .unset, .unset]) rfl ?_
        refine own_cast ?_ (sg0_241 l hw hx hZ hby hml hown hnm hret hlk v1 v2 v3 v4 v5 v6 v7 v8 v9 v10 v11 b18 b20 b22 b24 (own_f6 v11 v6 v7) (own_f6 v11 v6 v8) (own_f6 v11 v8 v7) (own_f6 v11 v8 v8) (0 : Int32) (0 : Int32) sz25 X36 N36 e36')
        rw [own_f0_106, if_neg hc31, if_pos hc37, if_neg hc38]
    · refine own_ifYes X36 hx (hb hby at_223) ((if0 _ _).trans (flt (mt own_lc_lt.mp hc37)).2.1) (pc' := 230) (by decide) (by decide) ?_
      refine own_iconst X36 hx (hb hby at_230) (pc' := 231) rfl (v := (0 : Int32)) rfl ?_
      by_cases hc39 : (own_f6 v6 v6 v7) = (0 : Int32)
      · refine own_icmpNo X36 hx (hb hby at_231) (pc' := 234) rfl (teq hc39).2 ?_
        refine own_iconst X36 hx (hb hby at_234) (pc' := 235) rfl (v := (1 : Int32)) rfl ?_
        refine own_goto X36 hx (hb hby at_235) (pc' := 239) (by decide) (by decide) ?_
        refine own_istore X36 hx (hb hby at_239) (pc' := 241) rfl (Ls' := #[.val (.long v1), .second, .val (.long v2), .second, .val (.long v3), .second, .val (.long v4), .second, .val (.int v5), .val (.long v6), .second, .val (.long v7), .second, .val (.long v8), .second, .val (.int v9), .val (.long v10), .second, .val (.long v11), .second, .val (.ref b18), .val (.ref b20), .val (.ref b22), .val (.ref b24), .val (.int (own_f6 v11 v6 v7)), .val (.int (own_f6 v11 v6 v8)), .val (.int (own_f6 v11 v8 v7)), .val (.int (own_f6 v11 v8 v8)), .val (.int (0 : Int32)), .val (.int (1 : Int32)), .unset, .unset, .unset, .unset]) rfl ?_
        refine own_cast ?_ (sg0_241 l hw hx hZ hby hml hown hnm hret hlk v1 v2 v3 v4 v5 v6 v7 v8 v9 v10 v11 b18 b20 b22 b24 (own_f6 v11 v6 v7) (own_f6 v11 v6 v8) (own_f6 v11 v8 v7) (own_f6 v11 v8 v8) (0 : Int32) (1 : Int32) sz25 X36 N36 e36')
        rw [own_f0_106, if_neg hc31, if_neg hc37, if_pos hc39]
      · refine own_icmpYes X36 hx (hb hby at_231) (feq hc39).2 (pc' := 238) (by decide) (by decide) ?_
        refine own_iconst X36 hx (hb hby at_238) (pc' := 239) rfl (v := (0 : Int32)) rfl ?_
        refine own_istore X36 hx (hb hby at_239) (pc' := 241) rfl (Ls' := #[.val (.long v1), .second, .val (.long v2), .second, .val (.long v3), .second, .val (.long v4), .second, .val (.int v5), .val (.long v6), .second, .val (.long v7), .second, .val (.long v8), .second, .val (.int v9), .val (.long v10), .second, .val (.long v11), .second, .val (.ref b18), .val (.ref b20), .val (.ref b22), .val (.ref b24), .val (.int (own_f6 v11 v6 v7)), .val (.int (own_f6 v11 v6 v8)), .val (.int (own_f6 v11 v8 v7)), .val (.int (own_f6 v11 v8 v8)), .val (.int (0 : Int32)), .val (.int (0 : Int32)), .unset, .unset, .unset, .unset]) rfl ?_
        refine own_cast ?_ (sg0_241 l hw hx hZ hby hml hown hnm hret hlk v1 v2 v3 v4 v5 v6 v7 v8 v9 v10 v11 b18 b20 b22 b24 (own_f6 v11 v6 v7) (own_f6 v11 v6 v8) (own_f6 v11 v8 v7) (own_f6 v11 v8 v8) (0 : Int32) (0 : Int32) sz25 X36 N36 e36')
        rw [own_f0_106, if_neg hc31, if_neg hc37, if_neg hc39]
set_option maxRecDepth 65536 in
set_option maxHeartbeats 40000000 in
theorem sg0_0 {p : Program} (l : Launch) {e : Env} {s : State} {m : MethodId} {args : Array Value} {below : List Frame} {meth : Method} {c : Code} {Z : State} {a0 : Array Value} (hw : ∀ d ∈ tables_1, d.before a0 Z = true) (hx : p.tables.exec = Jvm.exec) (hZ : Z.Warmed39 s.vm) (hby : c.code = code) (hml : c.maxLocals = 34) (hown : s.vm.findClass "SilenceCoversPinLaw" = some m.cls) (hnm : meth.name = "law") (hret : meth.sig.returnType = (some .boolean)) (hlk : meth.locks = false) (q1 : Int64) (q2 : Int64) (q3 : Int64) (q4 : Int64) (q5 : Int32) {h0 : Heap} {n0 : Nat} (Z0 : n0 ≤ h0.size) {T0 : State} {L0 : List Loc} (X0 : Stand p l e room_1 s m args below meth c T0 L0 0 0) (N0 : Fr n0 L0) (e0 : T0.heap = h0)  :
    own_Fin p.tables e below (own_End below s (own_L n0 (.int (own_f0 q1 q2 q3 q4 q5))) 4 8) T0 (mkF m 0 #[.val (.long q1), .second, .val (.long q2), .second, .val (.long q3), .second, .val (.long q4), .second, .val (.int q5), .unset, .unset, .unset, .unset, .unset, .unset, .unset, .unset, .unset, .unset, .unset, .unset, .unset, .unset, .unset, .unset, .unset, .unset, .unset, .unset, .unset, .unset, .unset, .unset, .unset] []) := by
  refine own_lloadN X0 hx (hb hby at_0) (pc' := 1) rfl rfl ?_
  refine own_lloadN X0 hx (hb hby at_1) (pc' := 2) rfl rfl ?_
  refine own_lload X0 hx (hb hby at_2) (pc' := 4) rfl rfl ?_
  obtain ⟨_, _, ⟨T11, L11, k11, n11⟩, -, X11, ⟨Lc11, hQ11, l11, y11, z11⟩, st11⟩ := Jvm.LawKit.callS X0 hx (y := (⟨"java/lang/Math", "min", "(JJ)J"⟩ : MethodName)) hown (mvT hZ (hw _ (List.mem_of_getElem? (i := 0) rfl))) (mvT hZ (hw _ (List.mem_of_getElem? (i := 1) rfl))) (mvT hZ (hw _ (List.mem_of_getElem? (i := 2) rfl))) (mvT hZ (hw _ (List.mem_of_getElem? (i := 3) rfl))) (by decide) (backOf (W := 2) (rm1 l Z a0 hw [] q2 q3 h0 n0 Z0 ) hZ (hw _ (List.mem_of_getElem? (i := 3) rfl)) (hw _ (List.mem_of_getElem? (i := 2) rfl)) (by decide) (by decide)) (g := (mkF m 4 #[.val (.long q1), .second, .val (.long q2), .second, .val (.long q3), .second, .val (.long q4), .second, .val (.int q5), .unset, .unset, .unset, .unset, .unset, .unset, .unset, .unset, .unset, .unset, .unset, .unset, .unset, .unset, .unset, .unset, .unset, .unset, .unset, .unset, .unset, .unset, .unset, .unset, .unset] [(.long q3), (.long q2), (.long q1)])) rfl (by rw [hml]; rfl) (argsL := [(.long q2), (.long q3)]) (rest := [(.long q1)]) (lenOf pd_1 rfl) rfl (by show 2 * 0 + _ ≤ _; exact Nat.le_of_eq rfl) (hb hby at_4) (fun _ _ => ⟨rfl, e0, (by decide : 0 + 0 ≤ _), (by decide : 0 + 0 ≤ _)⟩)
  dsimp only [Pt.U, Pt.locs, Pt.cells, Pt.slots] at X11 l11 y11 z11 st11 hQ11
  subst l11 y11 z11
  obtain ⟨rfl, N11q, e11'⟩ := hQ11
  have N11 := Fr.app N0 N11q
  refine own_st ?_ st11
  show own_Fin _ _ _ _ T11 (mkF m 7 #[.val (.long q1), .second, .val (.long q2), .second, .val (.long q3), .second, .val (.long q4), .second, .val (.int q5), .unset, .unset, .unset, .unset, .unset, .unset, .unset, .unset, .unset, .unset, .unset, .unset, .unset, .unset, .unset, .unset, .unset, .unset, .unset, .unset, .unset, .unset, .unset, .unset, .unset] [(.long (own_f1 q2 q3)), (.long q1)])
  obtain ⟨_, _, ⟨T12, L12, k12, n12⟩, -, X12, ⟨Lc12, hQ12, l12, y12, z12⟩, st12⟩ := Jvm.LawKit.callS X11 hx (y := (⟨"java/lang/Math", "min", "(JJ)J"⟩ : MethodName)) hown (mvT hZ (hw _ (List.mem_of_getElem? (i := 0) rfl))) (mvT hZ (hw _ (List.mem_of_getElem? (i := 1) rfl))) (mvT hZ (hw _ (List.mem_of_getElem? (i := 2) rfl))) (mvT hZ (hw _ (List.mem_of_getElem? (i := 3) rfl))) (by decide) (backOf (W := 0) (rm1 l Z a0 hw [] q1 (own_f1 q2 q3) h0 n0 Z0 ) hZ (hw _ (List.mem_of_getElem? (i := 3) rfl)) (hw _ (List.mem_of_getElem? (i := 2) rfl)) (by decide) (by decide)) (g := (mkF m 7 #[.val (.long q1), .second, .val (.long q2), .second, .val (.long q3), .second, .val (.long q4), .second, .val (.int q5), .unset, .unset, .unset, .unset, .unset, .unset, .unset, .unset, .unset, .unset, .unset, .unset, .unset, .unset, .unset, .unset, .unset, .unset, .unset, .unset, .unset, .unset, .unset, .unset, .unset] [(.long (own_f1 q2 q3)), (.long q1)])) rfl (by rw [hml]; rfl) (argsL := [(.long q1), (.long (own_f1 q2 q3))]) (rest := []) (lenOf pd_1 rfl) rfl (by show 2 * 0 + _ ≤ _; exact Nat.le_of_eq rfl) (hb hby at_7) (fun _ _ => ⟨rfl, e11', (by decide : 0 + 0 ≤ _), (by decide : 0 + 0 ≤ _)⟩)
  dsimp only [Pt.U, Pt.locs, Pt.cells, Pt.slots] at X12 l12 y12 z12 st12 hQ12
  subst l12 y12 z12
  obtain ⟨rfl, N12q, e12'⟩ := hQ12
  have N12 := Fr.app N11 N12q
  refine own_st ?_ st12
  show own_Fin _ _ _ _ T12 (mkF m 10 #[.val (.long q1), .second, .val (.long q2), .second, .val (.long q3), .second, .val (.long q4), .second, .val (.int q5), .unset, .unset, .unset, .unset, .unset, .unset, .unset, .unset, .unset, .unset, .unset, .unset, .unset, .unset, .unset, .unset, .unset, .unset, .unset, .unset, .unset, .unset, .unset, .unset, .unset] [(.long (own_f1 q1 (own_f1 q2 q3)))])
  refine own_lstore X12 hx (hb hby at_10) (pc' := 12) rfl (Ls' := #[.val (.long q1), .second, .val (.long q2), .second, .val (.long q3), .second, .val (.long q4), .second, .val (.int q5), .val (.long (own_f1 q1 (own_f1 q2 q3))), .second, .unset, .unset, .unset, .unset, .unset, .unset, .unset, .unset, .unset, .unset, .unset, .unset, .unset, .unset, .unset, .unset, .unset, .unset, .unset, .unset, .unset, .unset, .unset]) rfl ?_
  refine own_lloadN X12 hx (hb hby at_12) (pc' := 13) rfl rfl ?_
  refine own_lloadN X12 hx (hb hby at_13) (pc' := 14) rfl rfl ?_
  refine own_lload X12 hx (hb hby at_14) (pc' := 16) rfl rfl ?_
  obtain ⟨_, _, ⟨T13, L13, k13, n13⟩, -, X13, ⟨Lc13, hQ13, l13, y13, z13⟩, st13⟩ := Jvm.LawKit.callS X12 hx (y := (⟨"java/lang/Math", "max", "(JJ)J"⟩ : MethodName)) hown (mvT hZ (hw _ (List.mem_of_getElem? (i := 4) rfl))) (mvT hZ (hw _ (List.mem_of_getElem? (i := 5) rfl))) (mvT hZ (hw _ (List.mem_of_getElem? (i := 2) rfl))) (mvT hZ (hw _ (List.mem_of_getElem? (i := 6) rfl))) (by decide) (backOf (W := 2) (rm2 l Z a0 hw [] q2 q3 h0 n0 Z0 ) hZ (hw _ (List.mem_of_getElem? (i := 6) rfl)) (hw _ (List.mem_of_getElem? (i := 2) rfl)) (by decide) (by decide)) (g := (mkF m 16 #[.val (.long q1), .second, .val (.long q2), .second, .val (.long q3), .second, .val (.long q4), .second, .val (.int q5), .val (.long (own_f1 q1 (own_f1 q2 q3))), .second, .unset, .unset, .unset, .unset, .unset, .unset, .unset, .unset, .unset, .unset, .unset, .unset, .unset, .unset, .unset, .unset, .unset, .unset, .unset, .unset, .unset, .unset, .unset] [(.long q3), (.long q2), (.long q1)])) rfl (by rw [hml]; rfl) (argsL := [(.long q2), (.long q3)]) (rest := [(.long q1)]) (lenOf pd_1 rfl) rfl (by show 2 * 0 + _ ≤ _; exact Nat.le_of_eq rfl) (hb hby at_16) (fun _ _ => ⟨rfl, e12', (by decide : 0 + 0 ≤ _), (by decide : 0 + 0 ≤ _)⟩)
  dsimp only [Pt.U, Pt.locs, Pt.cells, Pt.slots] at X13 l13 y13 z13 st13 hQ13
  subst l13 y13 z13
  obtain ⟨rfl, N13q, e13'⟩ := hQ13
  have N13 := Fr.app N12 N13q
  refine own_st ?_ st13
  show own_Fin _ _ _ _ T13 (mkF m 19 #[.val (.long q1), .second, .val (.long q2), .second, .val (.long q3), .second, .val (.long q4), .second, .val (.int q5), .val (.long (own_f1 q1 (own_f1 q2 q3))), .second, .unset, .unset, .unset, .unset, .unset, .unset, .unset, .unset, .unset, .unset, .unset, .unset, .unset, .unset, .unset, .unset, .unset, .unset, .unset, .unset, .unset, .unset, .unset] [(.long (own_f2 q2 q3)), (.long q1)])
  obtain ⟨_, _, ⟨T14, L14, k14, n14⟩, -, X14, ⟨Lc14, hQ14, l14, y14, z14⟩, st14⟩ := Jvm.LawKit.callS X13 hx (y := (⟨"java/lang/Math", "max", "(JJ)J"⟩ : MethodName)) hown (mvT hZ (hw _ (List.mem_of_getElem? (i := 4) rfl))) (mvT hZ (hw _ (List.mem_of_getElem? (i := 5) rfl))) (mvT hZ (hw _ (List.mem_of_getElem? (i := 2) rfl))) (mvT hZ (hw _ (List.mem_of_getElem? (i := 6) rfl))) (by decide) (backOf (W := 0) (rm2 l Z a0 hw [] q1 (own_f2 q2 q3) h0 n0 Z0 ) hZ (hw _ (List.mem_of_getElem? (i := 6) rfl)) (hw _ (List.mem_of_getElem? (i := 2) rfl)) (by decide) (by decide)) (g := (mkF m 19 #[.val (.long q1), .second, .val (.long q2), .second, .val (.long q3), .second, .val (.long q4), .second, .val (.int q5), .val (.long (own_f1 q1 (own_f1 q2 q3))), .second, .unset, .unset, .unset, .unset, .unset, .unset, .unset, .unset, .unset, .unset, .unset, .unset, .unset, .unset, .unset, .unset, .unset, .unset, .unset, .unset, .unset, .unset, .unset] [(.long (own_f2 q2 q3)), (.long q1)])) rfl (by rw [hml]; rfl) (argsL := [(.long q1), (.long (own_f2 q2 q3))]) (rest := []) (lenOf pd_1 rfl) rfl (by show 2 * 0 + _ ≤ _; exact Nat.le_of_eq rfl) (hb hby at_19) (fun _ _ => ⟨rfl, e13', (by decide : 0 + 0 ≤ _), (by decide : 0 + 0 ≤ _)⟩)
  dsimp only [Pt.U, Pt.locs, Pt.cells, Pt.slots] at X14 l14 y14 z14 st14 hQ14
  subst l14 y14 z14
  obtain ⟨rfl, N14q, e14'⟩ := hQ14
  have N14 := Fr.app N13 N14q
  refine own_st ?_ st14
  show own_Fin _ _ _ _ T14 (mkF m 22 #[.val (.long q1), .second, .val (.long q2), .second, .val (.long q3), .second, .val (.long q4), .second, .val (.int q5), .val (.long (own_f1 q1 (own_f1 q2 q3))), .second, .unset, .unset, .unset, .unset, .unset, .unset, .unset, .unset, .unset, .unset, .unset, .unset, .unset, .unset, .unset, .unset, .unset, .unset, .unset, .unset, .unset, .unset, .unset] [(.long (own_f2 q1 (own_f2 q2 q3)))])
  refine own_lstore X14 hx (hb hby at_22) (pc' := 24) rfl (Ls' := #[.val (.long q1), .second, .val (.long q2), .second, .val (.long q3), .second, .val (.long q4), .second, .val (.int q5), .val (.long (own_f1 q1 (own_f1 q2 q3))), .second, .val (.long (own_f2 q1 (own_f2 q2 q3))), .second, .unset, .unset, .unset, .unset, .unset, .unset, .unset, .unset, .unset, .unset, .unset, .unset, .unset, .unset, .unset, .unset, .unset, .unset, .unset, .unset, .unset]) rfl ?_
  refine own_lloadN X14 hx (hb hby at_24) (pc' := 25) rfl rfl ?_
  refine own_lloadN X14 hx (hb hby at_25) (pc' := 26) rfl rfl ?_
  refine own_ladd X14 hx (hb hby at_26) (pc' := 27) rfl ?_
  refine own_lload X14 hx (hb hby at_27) (pc' := 29) rfl rfl ?_
  refine own_ladd X14 hx (hb hby at_29) (pc' := 30) rfl ?_
  refine own_lload X14 hx (hb hby at_30) (pc' := 32) rfl rfl ?_
  refine own_lsub X14 hx (hb hby at_32) (pc' := 33) rfl ?_
  refine own_lload X14 hx (hb hby at_33) (pc' := 35) rfl rfl ?_
  refine own_lsub X14 hx (hb hby at_35) (pc' := 36) rfl ?_
  refine own_lstore X14 hx (hb hby at_36) (pc' := 38) rfl (Ls' := #[.val (.long q1), .second, .val (.long q2), .second, .val (.long q3), .second, .val (.long q4), .second, .val (.int q5), .val (.long (own_f1 q1 (own_f1 q2 q3))), .second, .val (.long (own_f2 q1 (own_f2 q2 q3))), .second, .val (.long ((((q1 + q2) + q3) - (own_f1 q1 (own_f1 q2 q3))) - (own_f2 q1 (own_f2 q2 q3)))), .second, .unset, .unset, .unset, .unset, .unset, .unset, .unset, .unset, .unset, .unset, .unset, .unset, .unset, .unset, .unset, .unset, .unset, .unset, .unset]) rfl ?_
  refine own_iload X14 hx (hb hby at_38) (pc' := 40) rfl rfl ?_
  refine own_iconst X14 hx (hb hby at_40) (pc' := 41) rfl (v := (3 : Int32)) rfl ?_
  refine own_iand X14 hx (hb hby at_41) (pc' := 42) rfl ?_
  refine own_istore X14 hx (hb hby at_42) (pc' := 44) rfl (Ls' := #[.val (.long q1), .second, .val (.long q2), .second, .val (.long q3), .second, .val (.long q4), .second, .val (.int q5), .val (.long (own_f1 q1 (own_f1 q2 q3))), .second, .val (.long (own_f2 q1 (own_f2 q2 q3))), .second, .val (.long ((((q1 + q2) + q3) - (own_f1 q1 (own_f1 q2 q3))) - (own_f2 q1 (own_f2 q2 q3)))), .second, .val (.int (q5 &&& (3 : Int32))), .unset, .unset, .unset, .unset, .unset, .unset, .unset, .unset, .unset, .unset, .unset, .unset, .unset, .unset, .unset, .unset, .unset, .unset]) rfl ?_
  refine own_iload X14 hx (hb hby at_44) (pc' := 46) rfl rfl ?_
  refine own_iconst X14 hx (hb hby at_46) (pc' := 47) rfl (v := (2 : Int32)) rfl ?_
  refine own_iushr X14 hx (hb hby at_47) (pc' := 48) rfl ?_
  refine own_iconst X14 hx (hb hby at_48) (pc' := 49) rfl (v := (5 : Int32)) rfl ?_
  refine own_irem X14 hx (hb hby at_49) (pc' := 50) rfl (by decide) ?_
  refine own_iconst X14 hx (hb hby at_50) (pc' := 51) rfl (v := (2 : Int32)) rfl ?_
  refine own_isub X14 hx (hb hby at_51) (pc' := 52) rfl ?_
  refine own_i2l X14 hx (hb hby at_52) (pc' := 53) rfl ?_
  refine own_lstore X14 hx (hb hby at_53) (pc' := 55) rfl (Ls' := #[.val (.long q1), .second, .val (.long q2), .second, .val (.long q3), .second, .val (.long q4), .second, .val (.int q5), .val (.long (own_f1 q1 (own_f1 q2 q3))), .second, .val (.long (own_f2 q1 (own_f2 q2 q3))), .second, .val (.long ((((q1 + q2) + q3) - (own_f1 q1 (own_f1 q2 q3))) - (own_f2 q1 (own_f2 q2 q3)))), .second, .val (.int (q5 &&& (3 : Int32))), .val (.long ((((own_ush32 q5 (2 : Int32)) - ((own_ush32 q5 (2 : Int32)) / (5 : Int32)) * (5 : Int32)) - (2 : Int32)).toInt64)), .second, .unset, .unset, .unset, .unset, .unset, .unset, .unset, .unset, .unset, .unset, .unset, .unset, .unset, .unset, .unset, .unset]) rfl ?_
  refine own_iload X14 hx (hb hby at_55) (pc' := 57) rfl rfl ?_
  by_cases hc15 : (q5 &&& (3 : Int32)) = (0 : Int32)
  · refine own_ifNo X14 hx (hb hby at_57) (pc' := 60) rfl ((if0 _ _).trans (teq hc15).2) ?_
    refine own_lload X14 hx (hb hby at_60) (pc' := 62) rfl rfl ?_
    refine own_lstore X14 hx (hb hby at_62) (pc' := 64) rfl (Ls' := #[.val (.long q1), .second, .val (.long q2), .second, .val (.long q3), .second, .val (.long q4), .second, .val (.int q5), .val (.long (own_f1 q1 (own_f1 q2 q3))), .second, .val (.long (own_f2 q1 (own_f2 q2 q3))), .second, .val (.long ((((q1 + q2) + q3) - (own_f1 q1 (own_f1 q2 q3))) - (own_f2 q1 (own_f2 q2 q3)))), .second, .val (.int (q5 &&& (3 : Int32))), .val (.long ((((own_ush32 q5 (2 : Int32)) - ((own_ush32 q5 (2 : Int32)) / (5 : Int32)) * (5 : Int32)) - (2 : Int32)).toInt64)), .second, .val (.long q4), .second, .unset, .unset, .unset, .unset, .unset, .unset, .unset, .unset, .unset, .unset, .unset, .unset, .unset, .unset]) rfl ?_
    refine own_goto X14 hx (hb hby at_64) (pc' := 106) (by decide) (by decide) ?_
    refine own_cast ?_ (sg0_106 l hw hx hZ hby hml hown hnm hret hlk q1 q2 q3 q4 q5 (own_f1 q1 (own_f1 q2 q3)) (own_f2 q1 (own_f2 q2 q3)) ((((q1 + q2) + q3) - (own_f1 q1 (own_f1 q2 q3))) - (own_f2 q1 (own_f2 q2 q3))) (q5 &&& (3 : Int32)) ((((own_ush32 q5 (2 : Int32)) - ((own_ush32 q5 (2 : Int32)) / (5 : Int32)) * (5 : Int32)) - (2 : Int32)).toInt64) q4 Z0 X14 N14 e14')
    rw [own_f0, if_pos hc15]
  · refine own_ifYes X14 hx (hb hby at_57) ((if0 _ _).trans (feq hc15).2) (pc' := 67) (by decide) (by decide) ?_
    refine own_iload X14 hx (hb hby at_67) (pc' := 69) rfl rfl ?_
    refine own_iconst X14 hx (hb hby at_69) (pc' := 70) rfl (v := (1 : Int32)) rfl ?_
    by_cases hc16 : (q5 &&& (3 : Int32)) = (1 : Int32)
    · refine own_icmpNo X14 hx (hb hby at_70) (pc' := 73) rfl (teq hc16).2 ?_
      refine own_lload X14 hx (hb hby at_73) (pc' := 75) rfl rfl ?_
      refine own_lload X14 hx (hb hby at_75) (pc' := 77) rfl rfl ?_
      refine own_ladd X14 hx (hb hby at_77) (pc' := 78) rfl ?_
      refine own_lstore X14 hx (hb hby at_78) (pc' := 80) rfl (Ls' := #[.val (.long q1), .second, .val (.long q2), .second, .val (.long q3), .second, .val (.long q4), .second, .val (.int q5), .val (.long (own_f1 q1 (own_f1 q2 q3))), .second, .val (.long (own_f2 q1 (own_f2 q2 q3))), .second, .val (.long ((((q1 + q2) + q3) - (own_f1 q1 (own_f1 q2 q3))) - (own_f2 q1 (own_f2 q2 q3)))), .second, .val (.int (q5 &&& (3 : Int32))), .val (.long ((((own_ush32 q5 (2 : Int32)) - ((own_ush32 q5 (2 : Int32)) / (5 : Int32)) * (5 : Int32)) - (2 : Int32)).toInt64)), .second, .val (.long ((own_f1 q1 (own_f1 q2 q3)) + ((((own_ush32 q5 (2 : Int32)) - ((own_ush32 q5 (2 : Int32)) / (5 : Int32)) * (5 : Int32)) - (2 : Int32)).toInt64))), .second, .unset, .unset, .unset, .unset, .unset, .unset, .unset, .unset, .unset, .unset, .unset, .unset, .unset, .unset]) rfl ?_
      refine own_goto X14 hx (hb hby at_80) (pc' := 106) (by decide) (by decide) ?_
      refine own_cast ?_ (sg0_106 l hw hx hZ hby hml hown hnm hret hlk q1 q2 q3 q4 q5 (own_f1 q1 (own_f1 q2 q3)) (own_f2 q1 (own_f2 q2 q3)) ((((q1 + q2) + q3) - (own_f1 q1 (own_f1 q2 q3))) - (own_f2 q1 (own_f2 q2 q3))) (q5 &&& (3 : Int32)) ((((own_ush32 q5 (2 : Int32)) - ((own_ush32 q5 (2 : Int32)) / (5 : Int32)) * (5 : Int32)) - (2 : Int32)).toInt64) ((own_f1 q1 (own_f1 q2 q3)) + ((((own_ush32 q5 (2 : Int32)) - ((own_ush32 q5 (2 : Int32)) / (5 : Int32)) * (5 : Int32)) - (2 : Int32)).toInt64)) Z0 X14 N14 e14')
      rw [own_f0, if_neg hc15, if_pos hc16]
    · refine own_icmpYes X14 hx (hb hby at_70) (feq hc16).2 (pc' := 83) (by decide) (by decide) ?_
      refine own_iload X14 hx (hb hby at_83) (pc' := 85) rfl rfl ?_
      refine own_iconst X14 hx (hb hby at_85) (pc' := 86) rfl (v := (2 : Int32)) rfl ?_
      by_cases hc17 : (q5 &&& (3 : Int32)) = (2 : Int32)
      · refine own_icmpNo X14 hx (hb hby at_86) (pc' := 89) rfl (teq hc17).2 ?_
        refine own_lload X14 hx (hb hby at_89) (pc' := 91) rfl rfl ?_
        refine own_lload X14 hx (hb hby at_91) (pc' := 93) rfl rfl ?_
        refine own_ladd X14 hx (hb hby at_93) (pc' := 94) rfl ?_
        refine own_lstore X14 hx (hb hby at_94) (pc' := 96) rfl (Ls' := #[.val (.long q1), .second, .val (.long q2), .second, .val (.long q3), .second, .val (.long q4), .second, .val (.int q5), .val (.long (own_f1 q1 (own_f1 q2 q3))), .second, .val (.long (own_f2 q1 (own_f2 q2 q3))), .second, .val (.long ((((q1 + q2) + q3) - (own_f1 q1 (own_f1 q2 q3))) - (own_f2 q1 (own_f2 q2 q3)))), .second, .val (.int (q5 &&& (3 : Int32))), .val (.long ((((own_ush32 q5 (2 : Int32)) - ((own_ush32 q5 (2 : Int32)) / (5 : Int32)) * (5 : Int32)) - (2 : Int32)).toInt64)), .second, .val (.long (((((q1 + q2) + q3) - (own_f1 q1 (own_f1 q2 q3))) - (own_f2 q1 (own_f2 q2 q3))) + ((((own_ush32 q5 (2 : Int32)) - ((own_ush32 q5 (2 : Int32)) / (5 : Int32)) * (5 : Int32)) - (2 : Int32)).toInt64))), .second, .unset, .unset, .unset, .unset, .unset, .unset, .unset, .unset, .unset, .unset, .unset, .unset, .unset, .unset]) rfl ?_
        refine own_goto X14 hx (hb hby at_96) (pc' := 106) (by decide) (by decide) ?_
        refine own_cast ?_ (sg0_106 l hw hx hZ hby hml hown hnm hret hlk q1 q2 q3 q4 q5 (own_f1 q1 (own_f1 q2 q3)) (own_f2 q1 (own_f2 q2 q3)) ((((q1 + q2) + q3) - (own_f1 q1 (own_f1 q2 q3))) - (own_f2 q1 (own_f2 q2 q3))) (q5 &&& (3 : Int32)) ((((own_ush32 q5 (2 : Int32)) - ((own_ush32 q5 (2 : Int32)) / (5 : Int32)) * (5 : Int32)) - (2 : Int32)).toInt64) (((((q1 + q2) + q3) - (own_f1 q1 (own_f1 q2 q3))) - (own_f2 q1 (own_f2 q2 q3))) + ((((own_ush32 q5 (2 : Int32)) - ((own_ush32 q5 (2 : Int32)) / (5 : Int32)) * (5 : Int32)) - (2 : Int32)).toInt64)) Z0 X14 N14 e14')
        rw [own_f0, if_neg hc15, if_neg hc16, if_pos hc17]
      · refine own_icmpYes X14 hx (hb hby at_86) (feq hc17).2 (pc' := 99) (by decide) (by decide) ?_
        refine own_lload X14 hx (hb hby at_99) (pc' := 101) rfl rfl ?_
        refine own_lload X14 hx (hb hby at_101) (pc' := 103) rfl rfl ?_
        refine own_ladd X14 hx (hb hby at_103) (pc' := 104) rfl ?_
        refine own_lstore X14 hx (hb hby at_104) (pc' := 106) rfl (Ls' := #[.val (.long q1), .second, .val (.long q2), .second, .val (.long q3), .second, .val (.long q4), .second, .val (.int q5), .val (.long (own_f1 q1 (own_f1 q2 q3))), .second, .val (.long (own_f2 q1 (own_f2 q2 q3))), .second, .val (.long ((((q1 + q2) + q3) - (own_f1 q1 (own_f1 q2 q3))) - (own_f2 q1 (own_f2 q2 q3)))), .second, .val (.int (q5 &&& (3 : Int32))), .val (.long ((((own_ush32 q5 (2 : Int32)) - ((own_ush32 q5 (2 : Int32)) / (5 : Int32)) * (5 : Int32)) - (2 : Int32)).toInt64)), .second, .val (.long ((own_f2 q1 (own_f2 q2 q3)) + ((((own_ush32 q5 (2 : Int32)) - ((own_ush32 q5 (2 : Int32)) / (5 : Int32)) * (5 : Int32)) - (2 : Int32)).toInt64))), .second, .unset, .unset, .unset, .unset, .unset, .unset, .unset, .unset, .unset, .unset, .unset, .unset, .unset, .unset]) rfl ?_
        refine own_cast ?_ (sg0_106 l hw hx hZ hby hml hown hnm hret hlk q1 q2 q3 q4 q5 (own_f1 q1 (own_f1 q2 q3)) (own_f2 q1 (own_f2 q2 q3)) ((((q1 + q2) + q3) - (own_f1 q1 (own_f1 q2 q3))) - (own_f2 q1 (own_f2 q2 q3))) (q5 &&& (3 : Int32)) ((((own_ush32 q5 (2 : Int32)) - ((own_ush32 q5 (2 : Int32)) / (5 : Int32)) * (5 : Int32)) - (2 : Int32)).toInt64) ((own_f2 q1 (own_f2 q2 q3)) + ((((own_ush32 q5 (2 : Int32)) - ((own_ush32 q5 (2 : Int32)) / (5 : Int32)) * (5 : Int32)) - (2 : Int32)).toInt64)) Z0 X14 N14 e14')
        rw [own_f0, if_neg hc15, if_neg hc16, if_neg hc17]
theorem ef_0 (m : MethodId) (q1 : Int64) (q2 : Int64) (q3 : Int64) (q4 : Int64) (q5 : Int32) : entryFrame m #[(.long q1), (.long q2), (.long q3), (.long q4), (.int q5)] maxLocals = mkF m 0 #[.val (.long q1), .second, .val (.long q2), .second, .val (.long q3), .second, .val (.long q4), .second, .val (.int q5), .unset, .unset, .unset, .unset, .unset, .unset, .unset, .unset, .unset, .unset, .unset, .unset, .unset, .unset, .unset, .unset, .unset, .unset, .unset, .unset, .unset, .unset, .unset, .unset, .unset] [] := by first | (simp [entryFrame, mkF, argsToLocals, Value.category, maxLocals]; done) | rfl
set_option maxRecDepth 65536 in
set_option maxHeartbeats 40000000 in
theorem rm0 (l : Launch) (Z : State) (a0 : Array Value) (hw : ∀ d ∈ tables_1, d.before a0 Z = true) (ws : List Jvm.Cond) (q1 : Int64) (q2 : Int64) (q3 : Int64) (q4 : Int64) (q5 : Int32) (h0 : Heap) (n0 : Nat) (Z0 : n0 ≤ h0.size)  (own_law : ∀ (q1 : Int64) (q2 : Int64) (q3 : Int64) (q4 : Int64) (q5 : Int32), (own_f0 q1 q2 q3 q4 q5) = 1) :
    MetFree l x (head1 (Jvm.Cond.code x code maxLocals ret :: ws) room_1) (fun a U => a = #[(.long q1), (.long q2), (.long q3), (.long q4), (.int q5)] ∧ Z.Warmed39 U.vm ∧ U.heap = h0) (fun _ _ _ _ _ => True) (fun _ U o U' => ∃ v L, o = .returned v ∧ (own_L n0 (.int 1)) v U'.heap L ∧ FrameEnd U o U' L 4 8) := by
  refine MetFree.of_bodySF (plainFor_of_name pn_0) hisR ?_
  intro p e s m args below meth c s₁ Bd hml0 hP hK
  obtain ⟨rfl, hZ, hh⟩ := hP
  have hown : s.vm.findClass "SilenceCoversPinLaw" = some m.cls := findClass_of_methodNamed Bd.named
  have hnm := (name_of_methodNamed Bd.named Bd.method).1
  have X0 : Stand p l e room_1 s m #[(.long q1), (.long q2), (.long q3), (.long q4), (.int q5)] below meth c s₁ [] 0 0 := Stand.of_body Bd
  have e0 : s₁.heap = h0 := by rw [← hh, Bd.state]; rfl
  have H := sg0_0 l hw Bd.exec hZ Bd.bytes hml0 hown hnm Bd.returns Bd.notSynchronized q1 q2 q3 q4 q5 Z0 X0 (Fr.nil n0) e0
  rw [own_law] at H
  obtain ⟨t, h1, h2, o, h3, h4⟩ := H
  exact ⟨t, o, castTop (ef_0 m q1 q2 q3 q4 q5) h1, h2, h3, h4⟩
theorem own_b64 (x : Int64) : -9223372036854775808 ≤ x.toInt ∧ x.toInt < 9223372036854775808 := ⟨Int64.le_toInt x, Int64.toInt_lt x⟩
theorem own_b32 (x : Int32) : -2147483648 ≤ x.toInt ∧ x.toInt < 2147483648 := ⟨Int32.le_toInt x, Int32.toInt_lt x⟩
theorem own_wrap64 (n : Int) : ∃ k : Int, n.bmod (2 ^ 64) = n + k * 18446744073709551616 := by
  rw [Int.bmod_def]
  split
  · exact ⟨-(n / 18446744073709551616), by omega⟩
  · exact ⟨-(n / 18446744073709551616) - 1, by omega⟩
theorem own_add64 (x y : Int64) : ∃ k : Int, (x + y).toInt = x.toInt + y.toInt + k * 18446744073709551616 := by
  rw [Int64.toInt_add]; exact own_wrap64 _
theorem own_sub64 (x y : Int64) : ∃ k : Int, (x - y).toInt = x.toInt - y.toInt + k * 18446744073709551616 := by
  rw [Int64.toInt_sub]; exact own_wrap64 _
theorem own_wrap32 (n : Int) : ∃ k : Int, n.bmod (2 ^ 32) = n + k * 4294967296 := by
  rw [Int.bmod_def]
  split
  · exact ⟨-(n / 4294967296), by omega⟩
  · exact ⟨-(n / 4294967296) - 1, by omega⟩
theorem own_add32 (x y : Int32) : ∃ k : Int, (x + y).toInt = x.toInt + y.toInt + k * 4294967296 := by
  rw [Int32.toInt_add]; exact own_wrap32 _
theorem own_sub32 (x y : Int32) : ∃ k : Int, (x - y).toInt = x.toInt - y.toInt + k * 4294967296 := by
  rw [Int32.toInt_sub]; exact own_wrap32 _
theorem own_m63 (x : Int64) : (x &&& (9223372036854775807 : Int64)).toInt = x.toInt % 9223372036854775808 := Jvm.Kit.i64_mask x _ (k := 63) (by decide) (by decide)
theorem own_m31 (x : Int32) : (x &&& (2147483647 : Int32)).toInt = x.toInt % 2147483648 := Jvm.Kit.i32_mask x _ (k := 31) (by decide) (by decide)
theorem own_max64 : (9223372036854775807 : Int64).toInt = 9223372036854775807 := by decide
theorem own_lt64 {x y : Int64} : x < y ↔ x.toInt < y.toInt := Int64.lt_iff_toInt_lt
theorem own_lt32 {x y : Int32} : x < y ↔ x.toInt < y.toInt := Int32.lt_iff_toInt_lt
theorem own_eq64 {x y : Int64} : x = y ↔ x.toInt = y.toInt := Int64.toInt_inj.symm
theorem own_eq32 {x y : Int32} : x = y ↔ x.toInt = y.toInt := Int32.toInt_inj.symm

theorem own_min (x y : Int64) : (own_f1 x y).toInt = min x.toInt y.toInt := by
  unfold own_f1
  by_cases h : y < x
  · rw [if_pos h]; rw [own_lt64] at h; omega
  · rw [if_neg h]; rw [own_lt64] at h; omega
theorem own_max (x y : Int64) : (own_f2 x y).toInt = max x.toInt y.toInt := by
  unfold own_f2
  by_cases h : x < y
  · rw [if_pos h]; rw [own_lt64] at h; omega
  · rw [if_neg h]; rw [own_lt64] at h; omega
theorem own_mid (a b c : Int64) : (own_f1 a (own_f1 b c)).toInt ≤ ((((a + b) + c) - (own_f1 a (own_f1 b c))) - (own_f2 a (own_f2 b c))).toInt ∧ ((((a + b) + c) - (own_f1 a (own_f1 b c))) - (own_f2 a (own_f2 b c))).toInt ≤ (own_f2 a (own_f2 b c)).toInt := by
  have hl : (own_f1 a (own_f1 b c)).toInt = min a.toInt (min b.toInt c.toInt) := by rw [own_min, own_min]
  have hh : (own_f2 a (own_f2 b c)).toInt = max a.toInt (max b.toInt c.toInt) := by rw [own_max, own_max]
  generalize own_f1 a (own_f1 b c) = lo at *
  generalize own_f2 a (own_f2 b c) = hi at *
  obtain ⟨k1, h1⟩ := own_add64 a b
  obtain ⟨k2, h2⟩ := own_add64 (a + b) c
  obtain ⟨k3, h3⟩ := own_sub64 ((a + b) + c) lo
  obtain ⟨k4, h4⟩ := own_sub64 (((a + b) + c) - lo) hi
  have b1 := own_b64 a
  have b2 := own_b64 b
  have b3 := own_b64 c
  have b4 := own_b64 ((((a + b) + c) - lo) - hi)
  generalize ((((a + b) + c) - lo) - hi).toInt = m at *
  rw [h3, h2, h1] at h4
  have e : m = (a.toInt + b.toInt + c.toInt - min a.toInt (min b.toInt c.toInt) - max a.toInt (max b.toInt c.toInt)) + (k1 + k2 + k3 + k4) * 18446744073709551616 := by omega
  generalize k1 + k2 + k3 + k4 = k at e
  clear h4 h3 h2 h1
  omega
theorem own_f6_in {n f u : Int64} (h1 : ¬ n < f) (h2 : n < u) : own_f6 n f u = 1 := by unfold own_f6; rw [if_neg h1, if_pos h2]
theorem own_f6_lo {n f u : Int64} (h1 : n < f) : own_f6 n f u = 0 := by unfold own_f6; rw [if_pos h1]
theorem own_f6_hi {n f u : Int64} (h2 : ¬ n < u) : own_f6 n f u = 0 := by unfold own_f6; by_cases h : n < f
                                                                          · rw [if_pos h]
                                                                          · rw [if_neg h, if_neg h2]
theorem own_k241 (v1 v2 v3 v4 : Int64) (v5 : Int32) (v6 v7 v8 : Int64) (v9 : Int32) (v10 v11 : Int64) (hm : v6.toInt ≤ v8.toInt ∧ v8.toInt ≤ v7.toInt) :
    own_f0_241 v1 v2 v3 v4 v5 v6 v7 v8 v9 v10 v11 (own_f6 v11 v6 v7) (own_f6 v11 v6 v8) (own_f6 v11 v8 v7) (own_f6 v11 v8 v8) 1 1 = 1 := by
  by_cases h1 : v11 < v6
  · have h2 : v11 < v8 := by rw [own_lt64] at h1 ⊢; omega
    rw [own_f6_lo h1, own_f6_lo h1, own_f6_lo h2, own_f6_lo h2]
    simp +decide only [own_f0_241, own_f0_268, own_f0_285, own_f0_297, own_f0_325, if_true, if_false]
  · by_cases h2 : v11 < v8
    · have h3 : v11 < v7 := by rw [own_lt64] at h2 ⊢; omega
      rw [own_f6_in h1 h3, own_f6_in h1 h2, own_f6_lo h2, own_f6_lo h2]
      simp +decide only [own_f0_241, own_f0_268, own_f0_285, own_f0_297, own_f0_325, if_true, if_false, h1, h3]
    · by_cases h3 : v11 < v7
      · rw [own_f6_in h1 h3, own_f6_hi h2, own_f6_in h2 h3, own_f6_hi h2]
        simp +decide only [own_f0_241, own_f0_268, own_f0_285, own_f0_297, own_f0_325, if_true, if_false, h1, h3]
      · rw [own_f6_hi h3, own_f6_hi h2, own_f6_hi h3, own_f6_hi h2]
        simp +decide only [own_f0_241, own_f0_268, own_f0_285, own_f0_297, own_f0_325, if_true, if_false]
theorem own_k106 (v1 v2 v3 v4 : Int64) (v5 : Int32) (v6 v7 v8 : Int64) (v9 : Int32) (v10 v11 : Int64) (hm : v6.toInt ≤ v8.toInt ∧ v8.toInt ≤ v7.toInt) : own_f0_106 v1 v2 v3 v4 v5 v6 v7 v8 v9 v10 v11 = 1 := by
  unfold own_f0_106
  rw [if_pos (own_f6_hi (own_irr64 v7))]
  by_cases h : v6 < v7
  · rw [if_pos h, if_pos (own_f6_in (own_irr64 v6) h)]; exact own_k241 _ _ _ _ _ _ _ _ _ _ _ hm
  · rw [if_neg h, if_pos (own_f6_hi h)]; exact own_k241 _ _ _ _ _ _ _ _ _ _ _ hm
theorem own_law (q1 q2 q3 q4 : Int64) (q5 : Int32) : own_f0 q1 q2 q3 q4 q5 = 1 := by
  unfold own_f0
  simp only [own_k106 _ _ _ _ _ _ _ _ _ _ _ (own_mid q1 q2 q3), ite_self]
set_option maxRecDepth 65536 in
set_option maxHeartbeats 40000000 in
theorem comes_1 {Post : Tables → Env → Array Value → State → Outcome → State → Prop} (hpost : ∀ tb e args s v u, (limb_1_1.after args s (.returned v) u = true ∧ limb_1_2.after args s (.returned v) u = true ∧ True) → FrameEnd s (.returned v) u (Jvm.fieldLocs frame_1_writes args s ++ Jvm.arrayLocs frame_1_arrays args s ++ Jvm.staticLocs frame_1_statics s) 16 128 → Post tb e args s (.returned v) u) :
    ArmFor flags0 classFile x code maxLocals ret World_1 tables_1 room_1 Calls_1 rest_1 Pre_1 Post := by
  intro l hfl _ _ p e ha hc hk s m args below hf hA hF happ hP
  obtain ⟨hcalls, hrest, hpre⟩ := hP
  obtain ⟨-, -, -, hnamed, -, -, -, hat⟩ := (Spec.applies_iff hf).mp happ
  obtain ⟨hg, hn⟩ := and_e (Cond.before_iff.mp (show (Jvm.Cond.and given_1 narrow_1).before args s = true from hpre))
  obtain ⟨gc, g0⟩ := and_e hg
  obtain ⟨gv0, g1⟩ := and_e g0
  obtain ⟨gv1, g2⟩ := and_e g1
  obtain ⟨gv2, g3⟩ := and_e g2
  obtain ⟨gv3, g4⟩ := and_e g3
  have gv4 := g4
  obtain ⟨w0, w1, w2, w3, w4, rfl⟩ : ∃ w0 w1 w2 w3 w4 : Value, args = #[w0, w1, w2, w3, w4] := by
    have hs : args.size = 5 := by simpa [Cond.value, given_1] using gc
    obtain ⟨L⟩ := args
    match L, hs with
    | [w0, w1, w2, w3, w4], _ => exact ⟨w0, w1, w2, w3, w4, rfl⟩
  have hw := fun d (hd : d ∈ tables_1) => atoms_spec (ws := Jvm.Cond.code x code maxLocals ret :: tables_1) hat d (List.mem_cons_of_mem _ hd)
  obtain ⟨i0, ei0⟩ := isL_v gv0
  obtain rfl : w0 = (.long i0) := Option.some.inj ei0
  obtain ⟨i1, ei1⟩ := isL_v gv1
  obtain rfl : w1 = (.long i1) := Option.some.inj ei1
  obtain ⟨i2, ei2⟩ := isL_v gv2
  obtain rfl : w2 = (.long i2) := Option.some.inj ei2
  obtain ⟨i3, ei3⟩ := isL_v gv3
  obtain rfl : w3 = (.long i3) := Option.some.inj ei3
  obtain ⟨i4, ei4⟩ := is_v gv4
  obtain rfl : w4 = (.int i4) := Option.some.inj ei4
  obtain ⟨n, o, h1, h2, h3, _, L, rfl, ⟨rfl, N⟩, hq⟩ := rm0 l s _ hw tables_1 i0 i1 i2 i3 i4 s.heap s.heap.size (Nat.le_refl _) own_law p e ha hc hk s m _ below hf ((Spec.applies_iff_loose hf).mp happ).1 ⟨rfl, State.Warmed39.refl s, rfl⟩ trivial
  refine ⟨n, _, h1, h2, h3, hpost _ _ _ _ _ _ ⟨Cond.after_iff.mpr rfl, Cond.after_iff.mpr (eq_i res_at (Term.int_eval (1)) rfl), trivial⟩ ⟨hq.1, hq.2.1, (hq.2.2.sift fun y hy => Or.inr (N y hy)).mono (by decide) (by decide)⟩⟩
theorem main_1_1 : Claimed_1_1 := comes_1 fun _ _ _ _ _ _ h hF => ⟨h.1, hF⟩
theorem main_1_2 : Claimed_1_2 := comes_1 fun _ _ _ _ _ _ h hF => ⟨h.2.1, hF⟩
end Jvm.Pilot.@@N@@
namespace Jvm.Pilot.@@N@@
open Jvm Jvm.ClassFile Sem Op Lib Jvm.Free Jvm.Stand Jvm.Pilot.@@N@@.Jvm.D
/-! MADE BY PROGRAM (witnessworld.py) out of the Statement's table words and the real class files: 11 classes; the members and pool entries that the words name. The judged class is class 1, her method 1. -/
namespace start1
open Jvm.ClassFile
def u (s : String) : CpInfo := .utf8 (stringToUtf16 s)
/-- a pool by its gaps: so many unusable entries, then the entry; so many at the end -/
def gap : Nat → List CpInfo → List CpInfo
  | 0, r => r
  | n + 1, r => .unusable :: gap n r
def poolList (es : List (Nat × CpInfo)) (last : Nat) : List CpInfo := es.foldr (fun e r => gap e.1 (e.2 :: r)) (gap last [])
def pool (es : List (Nat × CpInfo)) (last : Nat) : Array CpInfo := ⟨poolList es last⟩
def fileOf (pool : Array CpInfo) (this : Nat) (attrs : Array Attribute := #[]) (ms : Array MethodInfo := #[]) (fl : Nat := 33) (sup : Nat := 0) (ifs : Array Nat := #[]) (fds : Array FieldInfo := #[]) : ClassFile where
  minorVersion := 0
  majorVersion := 65
  constantPool := pool
  accessFlags := fl
  thisClass := this
  superClass := sup
  interfaces := ifs
  fields := fds
  methods := ms
  attributes := attrs
def plain (name : String) (sup : Option ClassId) : Class where
  name := name
  kind := .ordinary
  loader := none
  accessFlags := 33
  super := sup
  interfaces := #[]
  cf := none
  fields := #[]
  methods := #[]
  instanceTypes := #[]
  staticTypes := #[]
  resolved := #[]
  callSites := []
  init := .initialized
  statics := none
  mirror := none

def pool0 : Array CpInfo := pool [(5, u "<init>"), (0, u "()V"), (1, .class_ 10), (1, u "java/lang/Object")] 113

def k0c0 : Code := { maxStack := 0, maxLocals := 1, code := object_method_1_code, exceptionTable := #[], attributes := #[] }
def k0m0 : Method := { name := "<init>", desc := "()V", sig := { parameters := [], returnType := none }, accessFlags := 1, code := some k0c0 }
/-- java/lang/Object -/
def k0 : Class := { plain "java/lang/Object" none with
  accessFlags := 33
  interfaces := #[]
  cf := some (fileOf pool0 8 #[] #[{ accessFlags := 1, nameIndex := 5, descriptorIndex := 6, attributes := #[] }] 33 0 #[] #[])
  fields := #[]
  methods := #[k0m0]
  instanceTypes := #[]
  staticTypes := #[]
  resolved := Array.replicate 124 none
  statics := none }

def pool1 : Array CpInfo := pool [(2, .class_ 4), (1, u "java/lang/Object"), (0, u "<init>"), (0, u "()V"), (0, .methodref 8 9), (0, .class_ 10), (0, .nameAndType 11 12), (0, u "java/lang/Math"), (0, u "min"), (0, u "(JJ)J"), (0, .methodref 8 14), (0, .nameAndType 15 12), (0, u "max"), (0, .class_ 17), (0, u "StandInLedger$Silence"), (0, .methodref 16 19), (0, .nameAndType 5 20), (0, u "(JJ)V"), (0, .methodref 16 22), (0, .nameAndType 23 24), (0, u "covers"), (0, u "(J)Z"), (0, .class_ 26), (0, u "SilenceCoversPinLaw"), (2, u "law"), (0, u "(JJJJI)Z")] 7

def k1m0 : Method := { name := "<init>", desc := "()V", sig := { parameters := [], returnType := none }, accessFlags := 1, code := none }
def k1c1 : Code := { maxStack := 6, maxLocals := 34, code := code, exceptionTable := #[], attributes := #[] }
def k1m1 : Method := { name := "law", desc := "(JJJJI)Z", sig := { parameters := [.long, .long, .long, .long, .int], returnType := some .boolean }, accessFlags := 9, code := some k1c1 }
/-- SilenceCoversPinLaw -/
def k1 : Class := { plain "SilenceCoversPinLaw" (some 0) with
  accessFlags := 49
  interfaces := #[]
  cf := some (fileOf pool1 25 #[] #[{ accessFlags := 1, nameIndex := 5, descriptorIndex := 6, attributes := #[] }, { accessFlags := 9, nameIndex := 29, descriptorIndex := 30, attributes := #[] }] 49 2 #[] #[])
  fields := #[]
  methods := #[k1m0, k1m1]
  instanceTypes := #[]
  staticTypes := #[]
  resolved := Array.replicate 38 none
  statics := none }

def pool2 : Array CpInfo := pool [(1, .class_ 2), (0, u "java/lang/Math"), (1, .class_ 6), (1, u "java/lang/Object"), (0, u "<init>"), (0, u "()V"), (89, .class_ 100), (1, u "java/lang/Math$RandomNumberGeneratorHolder"), (20, u "(JJ)J"), (50, u "negativeZeroFloatBits"), (0, u "J"), (2, u "negativeZeroDoubleBits"), (21, u "max"), (2, u "min"), (43, u "$assertionsDisabled"), (0, u "Z"), (91, u "twoToTheDoubleScaleDown"), (0, u "D"), (4, u "twoToTheDoubleScaleUp"), (9, u "E"), (3, u "PI"), (2, u "TAU"), (2, u "DEGREES_TO_RADIANS"), (0, u "RADIANS_TO_DEGREES")] 94

def k2m0 : Method := { name := "<init>", desc := "()V", sig := { parameters := [], returnType := none }, accessFlags := 2, code := none }
def k2c1 : Code := { maxStack := 4, maxLocals := 4, code := jdk_29_method_66_code, exceptionTable := #[], attributes := #[] }
def k2m1 : Method := { name := "max", desc := "(JJ)J", sig := { parameters := [.long, .long], returnType := some .long }, accessFlags := 9, code := some k2c1 }
def k2c2 : Code := { maxStack := 4, maxLocals := 4, code := jdk_29_method_70_code, exceptionTable := #[], attributes := #[] }
def k2m2 : Method := { name := "min", desc := "(JJ)J", sig := { parameters := [.long, .long], returnType := some .long }, accessFlags := 9, code := some k2c2 }
/-- java/lang/Math -/
def k2 : Class := { plain "java/lang/Math" (some 0) with
  accessFlags := 49
  interfaces := #[]
  cf := some (fileOf pool2 1 #[.nestMembers #[98]] #[{ accessFlags := 2, nameIndex := 7, descriptorIndex := 8, attributes := #[] }, { accessFlags := 9, nameIndex := 198, descriptorIndex := 121, attributes := #[] }, { accessFlags := 9, nameIndex := 201, descriptorIndex := 121, attributes := #[] }] 49 4 #[] #[{ accessFlags := 25, nameIndex := 354, descriptorIndex := 339, attributes := #[] }, { accessFlags := 25, nameIndex := 358, descriptorIndex := 339, attributes := #[] }, { accessFlags := 25, nameIndex := 361, descriptorIndex := 339, attributes := #[] }, { accessFlags := 26, nameIndex := 364, descriptorIndex := 339, attributes := #[] }, { accessFlags := 26, nameIndex := 365, descriptorIndex := 339, attributes := #[] }, { accessFlags := 26, nameIndex := 172, descriptorIndex := 173, attributes := #[] }, { accessFlags := 26, nameIndex := 176, descriptorIndex := 173, attributes := #[] }, { accessFlags := 8, nameIndex := 344, descriptorIndex := 339, attributes := #[] }, { accessFlags := 8, nameIndex := 338, descriptorIndex := 339, attributes := #[] }, { accessFlags := 4120, nameIndex := 245, descriptorIndex := 246, attributes := #[] }])
  fields := #[{ name := "E", type := .double, accessFlags := 25, slot := 0, constantValue := 0 }, { name := "PI", type := .double, accessFlags := 25, slot := 1, constantValue := 0 }, { name := "TAU", type := .double, accessFlags := 25, slot := 2, constantValue := 0 }, { name := "DEGREES_TO_RADIANS", type := .double, accessFlags := 26, slot := 3, constantValue := 0 }, { name := "RADIANS_TO_DEGREES", type := .double, accessFlags := 26, slot := 4, constantValue := 0 }, { name := "negativeZeroFloatBits", type := .long, accessFlags := 26, slot := 5, constantValue := 0 }, { name := "negativeZeroDoubleBits", type := .long, accessFlags := 26, slot := 6, constantValue := 0 }, { name := "twoToTheDoubleScaleUp", type := .double, accessFlags := 8, slot := 7, constantValue := 0 }, { name := "twoToTheDoubleScaleDown", type := .double, accessFlags := 8, slot := 8, constantValue := 0 }, { name := "$assertionsDisabled", type := .boolean, accessFlags := 4120, slot := 9, constantValue := 0 }]
  methods := #[k2m0, k2m1, k2m2]
  instanceTypes := #[]
  staticTypes := #[.double, .double, .double, .double, .double, .long, .long, .double, .double, .boolean]
  resolved := Array.replicate 460 none
  statics := none }

def pool3 : Array CpInfo := pool [(1, .methodref 2 3), (0, .class_ 4), (0, .nameAndType 5 6), (0, u "java/lang/Object"), (0, u "<init>"), (0, u "()V"), (0, .class_ 8), (0, u "java/lang/Record")] 13

def k3c0 : Code := { maxStack := 1, maxLocals := 1, code := jdk_30_method_1_code, exceptionTable := #[], attributes := #[] }
def k3m0 : Method := { name := "<init>", desc := "()V", sig := { parameters := [], returnType := none }, accessFlags := 4, code := some k3c0 }
/-- java/lang/Record -/
def k3 : Class := { plain "java/lang/Record" (some 0) with
  accessFlags := 1057
  interfaces := #[]
  cf := some (fileOf pool3 7 #[] #[{ accessFlags := 4, nameIndex := 5, descriptorIndex := 6, attributes := #[] }] 1057 2 #[] #[])
  fields := #[]
  methods := #[k3m0]
  instanceTypes := #[]
  staticTypes := #[]
  resolved := Array.replicate 22 none
  statics := none }

def pool4 : Array CpInfo := pool [(1, .class_ 2), (0, u "StandInLedger"), (0, .methodref 4 5), (0, .class_ 6), (0, .nameAndType 7 8), (0, u "java/lang/Record"), (0, u "<init>"), (0, u "()V"), (0, .fieldref 10 11), (0, .class_ 12), (0, .nameAndType 13 14), (0, u "StandInLedger$Silence"), (0, u "from"), (0, u "J"), (0, .fieldref 10 16), (0, .nameAndType 17 14), (0, u "until"), (14, u "(JJ)V"), (22, u "covers"), (0, u "(J)Z")] 29

def k4c0 : Code := { maxStack := 3, maxLocals := 5, code := prog_24_method_1_code, exceptionTable := #[], attributes := #[] }
def k4m0 : Method := { name := "<init>", desc := "(JJ)V", sig := { parameters := [.long, .long], returnType := none }, accessFlags := 0, code := some k4c0 }
def k4c1 : Code := { maxStack := 4, maxLocals := 3, code := prog_24_method_3_code, exceptionTable := #[], attributes := #[] }
def k4m1 : Method := { name := "covers", desc := "(J)Z", sig := { parameters := [.long], returnType := some .boolean }, accessFlags := 0, code := some k4c1 }
/-- StandInLedger$Silence -/
def k4 : Class := { plain "StandInLedger$Silence" (some 3) with
  accessFlags := 48
  interfaces := #[]
  cf := some (fileOf pool4 10 #[.nestHost 1] #[{ accessFlags := 0, nameIndex := 7, descriptorIndex := 32, attributes := #[] }, { accessFlags := 0, nameIndex := 55, descriptorIndex := 56, attributes := #[] }] 48 4 #[] #[{ accessFlags := 18, nameIndex := 13, descriptorIndex := 14, attributes := #[] }, { accessFlags := 18, nameIndex := 17, descriptorIndex := 14, attributes := #[] }])
  fields := #[{ name := "from", type := .long, accessFlags := 18, slot := 0, constantValue := 0 }, { name := "until", type := .long, accessFlags := 18, slot := 1, constantValue := 0 }]
  methods := #[k4m0, k4m1]
  instanceTypes := #[.long, .long]
  staticTypes := #[]
  resolved := Array.replicate 86 none
  statics := none }

def pool5 : Array CpInfo := pool [(1, u "java/lang/Cloneable"), (0, .class_ 1), (0, u "java/lang/Object"), (0, .class_ 3)] 3

/-- java/lang/Cloneable -/
def k5 : Class := { plain "java/lang/Cloneable" (some 0) with
  accessFlags := 1537
  interfaces := #[]
  cf := some (fileOf pool5 2 #[] #[] 1537 4 #[] #[])
  fields := #[]
  methods := #[]
  instanceTypes := #[]
  staticTypes := #[]
  resolved := Array.replicate 8 none
  statics := none }

def pool6 : Array CpInfo := pool [(1, u "java/io/Serializable"), (0, .class_ 1), (0, u "java/lang/Object"), (0, .class_ 3)] 3

/-- java/io/Serializable -/
def k6 : Class := { plain "java/io/Serializable" (some 0) with
  accessFlags := 1537
  interfaces := #[]
  cf := some (fileOf pool6 2 #[] #[] 1537 4 #[] #[])
  fields := #[]
  methods := #[]
  instanceTypes := #[]
  staticTypes := #[]
  resolved := Array.replicate 8 none
  statics := none }

/-- the primitive byte -/
def k7 : Class := { plain "byte" none with kind := .primitive 'B', accessFlags := 0x411 }
/-- [B -/
def k8 : Class := { plain "[B" (some 0) with kind := .array 7 .byte, interfaces := #[5, 6], accessFlags := 1041 }

/-- the primitive int -/
def k9 : Class := { plain "int" none with kind := .primitive 'I', accessFlags := 0x411 }
/-- [I -/
def k10 : Class := { plain "[I" (some 0) with kind := .array 9 .int, interfaces := #[5, 6], accessFlags := 1041 }

def heap : Heap := #[]
def classes : Array Class := #[k0, k1, k2, k3, k4, k5, k6, k7, k8, k9, k10]
def interned : List (Array UInt16 × Addr) := []
def slotsUsed : Nat := 0
def theMethod : MethodId := ⟨1, 1⟩
def args0 : Array Value := #[.long 500, .long 5, .long 3, .long 7, .int 3]
def aboutOver (below : List Frame) : State where
  vm := { classes := classes, interned := interned.toArray }
  heap := heap
  slotsUsed := slotsUsed
  threads := #[{ frames := .invoking theMethod args0 :: below }]
def below0 : List Frame := [.native { method := ⟨0, 0⟩, args := #[] }]
def about1 : State := aboutOver below0
def p0 : Program := .bare "" "" ""
def e0 : Env := launch0.env 0 0 0
theorem w_frames : about1.frames = Frame.invoking theMethod args0 :: below0 := rfl
set_option maxRecDepth 65536 in
theorem w_args : argsFit about1.vm theMethod args0 = true := by decide +kernel
set_option maxRecDepth 65536 in
theorem w_heap : heapFits about1 = true := by decide +kernel
set_option maxRecDepth 65536 in
theorem w_runnable : about1.curStatus? = some .runnable := by decide +kernel
set_option maxRecDepth 65536 in
theorem w_alone : about1.alone = true := by decide +kernel
set_option maxRecDepth 65536 in
theorem w_named : about1.methodNamed? x = some theMethod := by decide +kernel
set_option maxRecDepth 65536 in
theorem w_hears : about1.hears theMethod below0 = true := by decide +kernel
set_option maxRecDepth 65536 in
theorem w_ripe : about1.ripe theMethod args0 below0 = true := by decide +kernel
theorem w_running : about1.status = .running := rfl
set_option maxRecDepth 65536 in
theorem w_room : about1.hasRoom e0.platform room_1 = true :=
  launch0.hasRoom_least _ room_1 (by decide +kernel) (by decide +kernel) (by decide +kernel) (by decide +kernel) (by decide +kernel) (by decide +kernel)
theorem allAtoms_all (ts : List Jvm.Cond) (a : Array Jvm.Value) (st : Jvm.State) : (allAtoms ts).before a st = ts.all (fun c => c.before a st) := by
  induction ts with
  | nil => rfl
  | cons c t ih =>
    show (Jvm.Cond.and c (allAtoms t)).before a st = _
    rw [Jvm.Cond.before_and, ih, List.all_cons]
def words1 : List Jvm.Cond := Jvm.Cond.code x code maxLocals ret :: tables_1
/-- a 'code' word, met by the world's own term for the bytes: nothing is compared byte by byte -/
theorem code_word {y : MethodName} {bytes : ByteArray} {mx : Nat} {rt : Option FieldType} {a : Array Value} {s : State} {m : MethodId} {meth : Method} {c : Code} (h1 : s.methodNamed? y = some m) (h2 : s.vm.method? m = some meth) (h3 : meth.code = some c) (h4 : c.code = bytes)
    (h5 : (c.maxLocals == mx && c.exceptionTable.isEmpty && decide (c.maxStack ≤ mostOperands) && decide (meth.sig.returnType = rt) && !meth.locks && decide (parseMethodDescriptor y.desc = some meth.sig)) = true) : (Jvm.Cond.code y bytes mx rt).before a s = true := by
  simp only [Bool.and_eq_true, beq_iff_eq, Bool.not_eq_true', decide_eq_true_eq] at h5
  obtain ⟨⟨⟨⟨⟨g1, g2⟩, g3⟩, g4⟩, g5⟩, g6⟩ := h5
  simp [Cond.before, Cond.holds, Cond.value, h1, h2, h3, h4, g1, g2, g3, g4, g5, g6]
def isCode : Jvm.Cond → Bool
  | .code _ _ _ _ => true
  | _ => false
theorem all_split {L : List Jvm.Cond} {P : Jvm.Cond → Bool} (h1 : L.all (fun c => isCode c || P c) = true) (h2 : ∀ c ∈ L.filter isCode, P c = true) : L.all P = true := by
  refine List.all_eq_true.mpr fun c hc => ?_
  have h := List.all_eq_true.mp h1 c hc
  rcases Bool.eq_false_or_eq_true (isCode c) with hi | hi
  · exact h2 c (List.mem_filter.mpr ⟨hc, hi⟩)
  · simpa [hi] using h
set_option maxRecDepth 65536 in
theorem w_c0 : (Jvm.Cond.code x code maxLocals ret).before args0 about1 = true := code_word (m := ⟨1, 1⟩) (meth := k1m1) (c := k1c1) (by decide +kernel) rfl rfl rfl (by decide +kernel)
set_option maxRecDepth 65536 in
theorem w_c1 : (Jvm.Cond.code ({ cls := "java/lang/Math", name := "min", desc := "(JJ)J" } : Jvm.MethodName) jdk_29_method_70_code (4 : Nat) (Option.some Jvm.ClassFile.FieldType.long)).before args0 about1 = true := code_word (m := ⟨2, 2⟩) (meth := k2m2) (c := k2c2) (by decide +kernel) rfl rfl rfl (by decide +kernel)
set_option maxRecDepth 65536 in
theorem w_c2 : (Jvm.Cond.code ({ cls := "java/lang/Math", name := "max", desc := "(JJ)J" } : Jvm.MethodName) jdk_29_method_66_code (4 : Nat) (Option.some Jvm.ClassFile.FieldType.long)).before args0 about1 = true := code_word (m := ⟨2, 1⟩) (meth := k2m1) (c := k2c1) (by decide +kernel) rfl rfl rfl (by decide +kernel)
set_option maxRecDepth 65536 in
theorem w_c3 : (Jvm.Cond.code ({ cls := "StandInLedger$Silence", name := "<init>", desc := "(JJ)V" } : Jvm.MethodName) prog_24_method_1_code (5 : Nat) (Option.none : Option Jvm.ClassFile.FieldType)).before args0 about1 = true := code_word (m := ⟨4, 0⟩) (meth := k4m0) (c := k4c0) (by decide +kernel) rfl rfl rfl (by decide +kernel)
set_option maxRecDepth 65536 in
theorem w_c4 : (Jvm.Cond.code ({ cls := "java/lang/Record", name := "<init>", desc := "()V" } : Jvm.MethodName) jdk_30_method_1_code (1 : Nat) (Option.none : Option Jvm.ClassFile.FieldType)).before args0 about1 = true := code_word (m := ⟨3, 0⟩) (meth := k3m0) (c := k3c0) (by decide +kernel) rfl rfl rfl (by decide +kernel)
set_option maxRecDepth 65536 in
theorem w_c5 : (Jvm.Cond.code ({ cls := "java/lang/Object", name := "<init>", desc := "()V" } : Jvm.MethodName) object_method_1_code (1 : Nat) (Option.none : Option Jvm.ClassFile.FieldType)).before args0 about1 = true := code_word (m := ⟨0, 0⟩) (meth := k0m0) (c := k0c0) (by decide +kernel) rfl rfl rfl (by decide +kernel)
set_option maxRecDepth 65536 in
theorem w_c6 : (Jvm.Cond.code ({ cls := "StandInLedger$Silence", name := "covers", desc := "(J)Z" } : Jvm.MethodName) prog_24_method_3_code (3 : Nat) (Option.some Jvm.ClassFile.FieldType.boolean)).before args0 about1 = true := code_word (m := ⟨4, 1⟩) (meth := k4m1) (c := k4c1) (by decide +kernel) rfl rfl rfl (by decide +kernel)
def codes1 : List Jvm.Cond := [Jvm.Cond.code x code maxLocals ret, Jvm.Cond.code ({ cls := "java/lang/Math", name := "min", desc := "(JJ)J" } : Jvm.MethodName) jdk_29_method_70_code (4 : Nat) (Option.some Jvm.ClassFile.FieldType.long), Jvm.Cond.code ({ cls := "java/lang/Math", name := "max", desc := "(JJ)J" } : Jvm.MethodName) jdk_29_method_66_code (4 : Nat) (Option.some Jvm.ClassFile.FieldType.long), Jvm.Cond.code ({ cls := "StandInLedger$Silence", name := "<init>", desc := "(JJ)V" } : Jvm.MethodName) prog_24_method_1_code (5 : Nat) (Option.none : Option Jvm.ClassFile.FieldType), Jvm.Cond.code ({ cls := "java/lang/Record", name := "<init>", desc := "()V" } : Jvm.MethodName) jdk_30_method_1_code (1 : Nat) (Option.none : Option Jvm.ClassFile.FieldType), Jvm.Cond.code ({ cls := "java/lang/Object", name := "<init>", desc := "()V" } : Jvm.MethodName) object_method_1_code (1 : Nat) (Option.none : Option Jvm.ClassFile.FieldType), Jvm.Cond.code ({ cls := "StandInLedger$Silence", name := "covers", desc := "(J)Z" } : Jvm.MethodName) prog_24_method_3_code (3 : Nat) (Option.some Jvm.ClassFile.FieldType.boolean)]
set_option maxRecDepth 65536 in
theorem codes_eq : words1.filter isCode = codes1 := rfl
theorem w_codes : ∀ c ∈ words1.filter isCode, c.before args0 about1 = true := by
  rw [codes_eq]
  intro c hc
  simp only [codes1, List.mem_cons, List.not_mem_nil, or_false] at hc
  rcases hc with rfl | rfl | rfl | rfl | rfl | rfl | rfl
  · exact w_c0
  · exact w_c1
  · exact w_c2
  · exact w_c3
  · exact w_c4
  · exact w_c5
  · exact w_c6
set_option maxRecDepth 65536 in
theorem w_t1 : (words1.take 24).all (fun c => isCode c || c.before args0 about1) = true := by decide +kernel
set_option maxRecDepth 65536 in
theorem w_t2 : (words1.drop 24).all (fun c => isCode c || c.before args0 about1) = true := by decide +kernel
theorem w_tables : (allAtoms (Jvm.Cond.code x code maxLocals ret :: tables_1)).before args0 about1 = true := by
  rw [allAtoms_all]
  show words1.all (fun c => c.before args0 about1) = true
  refine all_split ?_ w_codes
  rw [← List.take_append_drop 24 words1, List.all_append, w_t1, w_t2]
  rfl
set_option maxRecDepth 65536 in
theorem w_case : (Jvm.Cond.and given_1 narrow_1).before args0 about1 = true := by decide +kernel
theorem w_applies : (headSpec (Jvm.Cond.code x code maxLocals ret :: tables_1) room_1).applies x e0.platform about1 = true :=
  (Spec.applies_iff w_frames).mpr ⟨w_running, w_runnable, w_alone, w_named, w_hears, w_ripe, w_room, w_tables⟩
theorem atStart : AtStart classFile x code maxLocals ret World_1 tables_1 room_1 Calls_1 rest_1 Pre_1 launch0 p0 e0 about1 theMethod args0 below0 :=
  ⟨lists_1, trivial, launch0.admits_env _ _ _, launch0.least_env, fairChoices_fair.cas, fairChoices_fair.clock, w_frames, w_args, w_heap, w_applies, trivial, trivial, w_case⟩
end start1
theorem witness_1 : WitnessClaimed_1 := ⟨start1.p0, start1.e0, start1.about1, start1.theMethod, start1.args0, start1.below0, start1.atStart⟩
end Jvm.Pilot.@@N@@
