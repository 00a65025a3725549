import JvmDerived
import JvmDerived.Pilot.@@N@@Statement
import JvmDerived.Pilot.@@N@@Code
set_option linter.unusedVariables false
set_option linter.unusedSimpArgs false
@@BLOCK:NumsL.lean.txt@@
namespace Jvm.RoadKit
open Sem ClassFile Op Lib Jvm.Stand Jvm.Free Jvm.LawKit
section New
variable {p : Program} {l : Launch} {e : Env} {R : Room} {s : State} {m : MethodId} {args : Array Value} {below : List Frame} {meth : Method} {c : Code} {T : State} {locs : List Loc} {cells slots : Nat}
theorem retI (X : Stand p l e R s m args below meth c T locs cells slots) (hx : p.tables.exec = Jvm.exec) {pc : Nat} {Ls : Array Slot} {z : Int32} {rest : List Value} (hret : meth.sig.returnType = some .int) (hd : decode c.code pc = .ok (.ireturn, 1)) {fs : List Frame}
    (hl : ∀ (f : JFrame) (acts : List Action), f.method = m → f.locked = none → f.entered = [] → (doReturn e (T.setTop f) acts (some (.int z))).1 = T.setFrames fs) : Steps p.tables e below (T.setTop (mkF m pc Ls (.int z :: rest))) (T.setFrames fs) := by
  have hm' : T.vm.method? m = some meth := X.method'
  have hn : narrow .int (.int z) = .int z := rfl
  show Steps p.tables e below (T.setTop { method := m, pc := pc, locals := Ls, stack := _ :: rest, locked := none }) _
  jvm_step X.here [X.here.top, hx, hd, hm', hret, hn]
  first | (intro acts; rw [hl _ acts rfl rfl rfl]) | rw [hl _ _ rfl rfl rfl]
  exact Steps.refl _
end New
end Jvm.RoadKit
namespace Jvm.Pilot.@@N@@
open Jvm Jvm.ClassFile Sem Op Lib Jvm.Free Jvm.Stand Jvm.LawKit Jvm.RoadKit Bundle Jvm.Pilot.@@N@@.Jvm.D
/-- the run from this frame comes to an end that R takes -/
def own_Fin (tb : Tables) (e : Env) (below : List Frame) (R : State → Prop) (T : State) (g : JFrame) : Prop := ∃ t, Steps tb e below (T.setTop g) t ∧ R t
theorem own_st {tb : Tables} {e : Env} {below : List Frame} {R : State → Prop} {T T' : State} {g g' : JFrame} (h : own_Fin tb e below R T' g') (k : ∀ t, Steps tb e below (T'.setTop g') t → Steps tb e below (T.setTop g) t) : own_Fin tb e below R T g := by
  obtain ⟨t, a, b⟩ := h
  exact ⟨t, k t a, b⟩
def own_End (below : List Frame) (s : State) (Q : Option Value → Heap → List Loc → Prop) (cells slots : Nat) (t : State) : Prop := t.status = .running ∧ ∃ o, Ended t below o ∧ ∃ v L, o = .returned v ∧ Q v t.heap L ∧ FrameEnd s o t L cells slots
/-- a body that writes nothing -/
def own_P (h0 : Heap) (n0 : Nat) (w : Option Value) (v : Option Value) (h : Heap) (L : List Loc) : Prop := v = w ∧ Fr n0 L ∧ h = h0
theorem own_cast {tb : Tables} {e : Env} {below : List Frame} {R R' : State → Prop} {T : State} {g : JFrame} (q : R' = R) (h : own_Fin tb e below R' T g) : own_Fin tb e below R T g := q ▸ h
/-- the law: what it returns, and nothing old is written -/
def own_L (n0 : Nat) (w : Value) (v : Option Value) (h : Heap) (L : List Loc) : Prop := v = some w ∧ Fr n0 L
theorem own_lcW (a b : Int64) : lcmpW a b = if a > b then 1 else if a = b then 0 else -1 := rfl
theorem own_lc_lt {a b : Int64} : lcmpW a b < 0 ↔ a < b := by
  rw [own_lcW]
  by_cases h1 : a > b
  · rw [if_pos h1]
    exact ⟨fun h => absurd h (by decide), fun h => absurd (Int64.lt_trans h h1) Int64.lt_irrefl⟩
  · rw [if_neg h1]
    by_cases h2 : a = b
    · rw [if_pos h2]
      exact ⟨fun h => absurd h (by decide), fun h => absurd (h2 ▸ h) Int64.lt_irrefl⟩
    · rw [if_neg h2]
      refine ⟨fun _ => ?_, fun _ => by decide⟩
      rw [Int64.lt_iff_toInt_lt] at *
      have h3 : a.toInt ≠ b.toInt := fun q => h2 (Int64.toInt_inj.mp q)
      have h4 : ¬ b.toInt < a.toInt := fun q => h1 (Int64.lt_iff_toInt_lt.mpr q)
      omega
theorem own_lc_gt {a b : Int64} : 0 < lcmpW a b ↔ b < a := by
  rw [own_lcW]
  by_cases h1 : a > b
  · rw [if_pos h1]; exact ⟨fun _ => h1, fun _ => by decide⟩
  · rw [if_neg h1]
    by_cases h2 : a = b
    · rw [if_pos h2]; exact ⟨fun h => absurd h (by decide), fun h => absurd h h1⟩
    · rw [if_neg h2]; exact ⟨fun h => absurd h (by decide), fun h => absurd h h1⟩
theorem own_lc_eq {a b : Int64} : lcmpW a b = 0 ↔ a = b := by
  rw [own_lcW]
  by_cases h1 : a > b
  · rw [if_pos h1]; exact ⟨fun h => absurd h (by decide), fun h => absurd (h ▸ h1 : a > a) Int64.lt_irrefl⟩
  · rw [if_neg h1]
    by_cases h2 : a = b
    · rw [if_pos h2]; exact ⟨fun _ => h2, fun _ => rfl⟩
    · rw [if_neg h2]; exact ⟨fun h => absurd h (by decide), fun h => absurd h h2⟩
def own_EndW (below : List Frame) (s : State) (Q : Option Value → Heap → List Loc → Prop) (cells slots : Nat) (t : State) : Prop := t.status = .running ∧ ∃ o, Ended t below o ∧ ∃ v L, o = .returned v ∧ Q v t.heap L ∧ ReturnedEndW s o t L cells slots
theorem own_fr {tb : Tables} {e : Env} {below : List Frame} {R : State → Prop} {T : State} {g g' : JFrame} (q : g' = g) (h : own_Fin tb e below R T g') : own_Fin tb e below R T g := q ▸ h
theorem own_irr32 (x : Int32) : ¬ x < x := Int32.lt_irrefl
theorem own_irr64 (x : Int64) : ¬ x < x := Int64.lt_irrefl
def own_ush32 (x y : Int32) : Int32 := (x.toUInt32 >>> (y &&& 31).toUInt32).toInt32
def own_ush64 (x : Int64) (y : Int32) : Int64 := (x.toUInt64 >>> (y &&& 0x3f).toInt64.toUInt64).toInt64
section OwnStep
variable {p : Program} {l : Launch} {e : Env} {R : Room} {s : State} {m : MethodId} {args : Array Value} {below : List Frame} {meth : Method} {c : Code} {T : State} {locs : List Loc} {kc ks : Nat} {Rr : State → Prop} {Ls Ls' : Array Slot} {st : List Value} {pc pc' : Nat} {Z : State} {a0 : Array Value} {h : Heap}
theorem own_iload (X : Stand p l e R s m args below meth c T locs kc ks) (hx : p.tables.exec = Jvm.exec) {j : Nat} {v : Int32} (hd : decode c.code pc = .ok (.iload j, 2)) (hp : pc + 2 = pc') (hl : Ls[j]? = some (.val (.int v))) (h : own_Fin p.tables e below Rr T (mkF m pc' Ls (.int v :: st))) : own_Fin p.tables e below Rr T (mkF m pc Ls st) := by
  subst hp; exact own_st h (fun t k => XS.iload X.here hx rfl hd hl k)
theorem own_iloadN (X : Stand p l e R s m args below meth c T locs kc ks) (hx : p.tables.exec = Jvm.exec) {j : Fin 4} {v : Int32} (hd : decode c.code pc = .ok (.iload_n j, 1)) (hp : pc + 1 = pc') (hl : Ls[j.val]? = some (.val (.int v))) (h : own_Fin p.tables e below Rr T (mkF m pc' Ls (.int v :: st))) : own_Fin p.tables e below Rr T (mkF m pc Ls st) := by
  subst hp; exact own_st h (fun t k => XS.iloadN X.here hx rfl hd hl k)
theorem own_istore (X : Stand p l e R s m args below meth c T locs kc ks) (hx : p.tables.exec = Jvm.exec) {j : Nat} {v : Int32} (hd : decode c.code pc = .ok (.istore j, 2)) (hp : pc + 2 = pc') (hl : storeLocals Ls j (.int v) = some Ls') (h : own_Fin p.tables e below Rr T (mkF m pc' Ls' st)) : own_Fin p.tables e below Rr T (mkF m pc Ls (.int v :: st)) := by
  subst hp; exact own_st h (fun t k => XS.istore X.here hx rfl hd rfl hl k)
theorem own_istoreN (X : Stand p l e R s m args below meth c T locs kc ks) (hx : p.tables.exec = Jvm.exec) {j : Fin 4} {v : Int32} (hd : decode c.code pc = .ok (.istore_n j, 1)) (hp : pc + 1 = pc') (hl : storeLocals Ls j.val (.int v) = some Ls') (h : own_Fin p.tables e below Rr T (mkF m pc' Ls' st)) : own_Fin p.tables e below Rr T (mkF m pc Ls (.int v :: st)) := by
  subst hp; exact own_st h (fun t k => XS.istoreN X.here hx rfl hd rfl hl k)
theorem own_lload (X : Stand p l e R s m args below meth c T locs kc ks) (hx : p.tables.exec = Jvm.exec) {j : Nat} {v : Int64} (hd : decode c.code pc = .ok (.lload j, 2)) (hp : pc + 2 = pc') (hl : Ls[j]? = some (.val (.long v))) (h : own_Fin p.tables e below Rr T (mkF m pc' Ls (.long v :: st))) : own_Fin p.tables e below Rr T (mkF m pc Ls st) := by
  subst hp; exact own_st h (fun t k => XS.lload X.here hx rfl hd hl k)
theorem own_lloadN (X : Stand p l e R s m args below meth c T locs kc ks) (hx : p.tables.exec = Jvm.exec) {j : Fin 4} {v : Int64} (hd : decode c.code pc = .ok (.lload_n j, 1)) (hp : pc + 1 = pc') (hl : Ls[j.val]? = some (.val (.long v))) (h : own_Fin p.tables e below Rr T (mkF m pc' Ls (.long v :: st))) : own_Fin p.tables e below Rr T (mkF m pc Ls st) := by
  subst hp; exact own_st h (fun t k => XS.lloadN X.here hx rfl hd hl k)
theorem own_lstore (X : Stand p l e R s m args below meth c T locs kc ks) (hx : p.tables.exec = Jvm.exec) {j : Nat} {v : Int64} (hd : decode c.code pc = .ok (.lstore j, 2)) (hp : pc + 2 = pc') (hl : storeLocals Ls j (.long v) = some Ls') (h : own_Fin p.tables e below Rr T (mkF m pc' Ls' st)) : own_Fin p.tables e below Rr T (mkF m pc Ls (.long v :: st)) := by
  subst hp; exact own_st h (fun t k => XS.lstore X.here hx rfl hd rfl hl k)
theorem own_lstoreN (X : Stand p l e R s m args below meth c T locs kc ks) (hx : p.tables.exec = Jvm.exec) {j : Fin 4} {v : Int64} (hd : decode c.code pc = .ok (.lstore_n j, 1)) (hp : pc + 1 = pc') (hl : storeLocals Ls j.val (.long v) = some Ls') (h : own_Fin p.tables e below Rr T (mkF m pc' Ls' st)) : own_Fin p.tables e below Rr T (mkF m pc Ls (.long v :: st)) := by
  subst hp; exact own_st h (fun t k => XS.lstoreN X.here hx rfl hd rfl hl k)
theorem own_aload (X : Stand p l e R s m args below meth c T locs kc ks) (hx : p.tables.exec = Jvm.exec) {j : Nat} {v : Value} (hd : decode c.code pc = .ok (.aload j, 2)) (hp : pc + 2 = pc') (hl : Ls[j]? = some (.val v)) (hv : v.isRef = true) (h : own_Fin p.tables e below Rr T (mkF m pc' Ls (v :: st))) : own_Fin p.tables e below Rr T (mkF m pc Ls st) := by
  subst hp; exact own_st h (fun t k => XS.aload X.here hx rfl hd hl hv k)
theorem own_aloadN (X : Stand p l e R s m args below meth c T locs kc ks) (hx : p.tables.exec = Jvm.exec) {j : Fin 4} {v : Value} (hd : decode c.code pc = .ok (.aload_n j, 1)) (hp : pc + 1 = pc') (hl : Ls[j.val]? = some (.val v)) (hv : v.isRef = true) (h : own_Fin p.tables e below Rr T (mkF m pc' Ls (v :: st))) : own_Fin p.tables e below Rr T (mkF m pc Ls st) := by
  subst hp; exact own_st h (fun t k => XS.aloadN X.here hx rfl hd hl hv k)
theorem own_astore (X : Stand p l e R s m args below meth c T locs kc ks) (hx : p.tables.exec = Jvm.exec) {j : Nat} {v : Value} (hd : decode c.code pc = .ok (.astore j, 2)) (hp : pc + 2 = pc') (hv : v.isRef = true) (hl : storeLocals Ls j v = some Ls') (h : own_Fin p.tables e below Rr T (mkF m pc' Ls' st)) : own_Fin p.tables e below Rr T (mkF m pc Ls (v :: st)) := by
  subst hp; exact own_st h (fun t k => XS.astore X.here hx rfl hd rfl hv hl k)
theorem own_astoreN (X : Stand p l e R s m args below meth c T locs kc ks) (hx : p.tables.exec = Jvm.exec) {j : Fin 4} {v : Value} (hd : decode c.code pc = .ok (.astore_n j, 1)) (hp : pc + 1 = pc') (hv : v.isRef = true) (hl : storeLocals Ls j.val v = some Ls') (h : own_Fin p.tables e below Rr T (mkF m pc' Ls' st)) : own_Fin p.tables e below Rr T (mkF m pc Ls (v :: st)) := by
  subst hp; exact own_st h (fun t k => XS.astoreN X.here hx rfl hd rfl hv hl k)
theorem own_iconst (X : Stand p l e R s m args below meth c T locs kc ks) (hx : p.tables.exec = Jvm.exec) {i : Int} {v : Int32} (hd : decode c.code pc = .ok (.iconst i, 1)) (hp : pc + 1 = pc') (hv : Int32.ofInt i = v) (h : own_Fin p.tables e below Rr T (mkF m pc' Ls (.int v :: st))) : own_Fin p.tables e below Rr T (mkF m pc Ls st) := by
  subst hp; exact own_st h (fun t k => XS.iconst X.here hx rfl hd (hv ▸ k))
theorem own_bipush (X : Stand p l e R s m args below meth c T locs kc ks) (hx : p.tables.exec = Jvm.exec) {i : Int} {v : Int32} (hd : decode c.code pc = .ok (.bipush i, 2)) (hp : pc + 2 = pc') (hv : (Int8.ofInt i).toInt32 = v) (h : own_Fin p.tables e below Rr T (mkF m pc' Ls (.int v :: st))) : own_Fin p.tables e below Rr T (mkF m pc Ls st) := by
  subst hp; exact own_st h (fun t k => XS.bipush X.here hx rfl hd (hv ▸ k))
theorem own_sipush (X : Stand p l e R s m args below meth c T locs kc ks) (hx : p.tables.exec = Jvm.exec) {i : Int} {v : Int32} (hd : decode c.code pc = .ok (.sipush i, 3)) (hp : pc + 3 = pc') (hv : (Int16.ofInt i).toInt32 = v) (h : own_Fin p.tables e below Rr T (mkF m pc' Ls (.int v :: st))) : own_Fin p.tables e below Rr T (mkF m pc Ls st) := by
  subst hp; exact own_st h (fun t k => XS.sipush X.here hx rfl hd (hv ▸ k))
theorem own_lconst (X : Stand p l e R s m args below meth c T locs kc ks) (hx : p.tables.exec = Jvm.exec) {i : Fin 2} {v : Int64} (hd : decode c.code pc = .ok (.lconst i, 1)) (hp : pc + 1 = pc') (hv : Int64.ofNat i = v) (h : own_Fin p.tables e below Rr T (mkF m pc' Ls (.long v :: st))) : own_Fin p.tables e below Rr T (mkF m pc Ls st) := by
  subst hp; exact own_st h (fun t k => XS.lconst X.here hx rfl hd (hv ▸ k))
theorem own_aconstNull (X : Stand p l e R s m args below meth c T locs kc ks) (hx : p.tables.exec = Jvm.exec)  (hd : decode c.code pc = .ok (.aconst_null, 1)) (hp : pc + 1 = pc')  (h : own_Fin p.tables e below Rr T (mkF m pc' Ls (.null :: st))) : own_Fin p.tables e below Rr T (mkF m pc Ls st) := by
  subst hp; exact own_st h (fun t k => XS.aconstNull X.here hx rfl hd k)
theorem own_iadd (X : Stand p l e R s m args below meth c T locs kc ks) (hx : p.tables.exec = Jvm.exec) {x y : Int32} (hd : decode c.code pc = .ok (.iadd, 1)) (hp : pc + 1 = pc')  (h : own_Fin p.tables e below Rr T (mkF m pc' Ls (.int (x + y) :: st))) : own_Fin p.tables e below Rr T (mkF m pc Ls (.int y :: .int x :: st)) := by
  subst hp; exact own_st h (fun t k => XS.iadd X.here hx rfl hd rfl k)
theorem own_ladd (X : Stand p l e R s m args below meth c T locs kc ks) (hx : p.tables.exec = Jvm.exec) {x y : Int64} (hd : decode c.code pc = .ok (.ladd, 1)) (hp : pc + 1 = pc')  (h : own_Fin p.tables e below Rr T (mkF m pc' Ls (.long (x + y) :: st))) : own_Fin p.tables e below Rr T (mkF m pc Ls (.long y :: .long x :: st)) := by
  subst hp; exact own_st h (fun t k => XS.ladd X.here hx rfl hd rfl k)
theorem own_isub (X : Stand p l e R s m args below meth c T locs kc ks) (hx : p.tables.exec = Jvm.exec) {x y : Int32} (hd : decode c.code pc = .ok (.isub, 1)) (hp : pc + 1 = pc')  (h : own_Fin p.tables e below Rr T (mkF m pc' Ls (.int (x - y) :: st))) : own_Fin p.tables e below Rr T (mkF m pc Ls (.int y :: .int x :: st)) := by
  subst hp; exact own_st h (fun t k => XS.isub X.here hx rfl hd rfl k)
theorem own_lsub (X : Stand p l e R s m args below meth c T locs kc ks) (hx : p.tables.exec = Jvm.exec) {x y : Int64} (hd : decode c.code pc = .ok (.lsub, 1)) (hp : pc + 1 = pc')  (h : own_Fin p.tables e below Rr T (mkF m pc' Ls (.long (x - y) :: st))) : own_Fin p.tables e below Rr T (mkF m pc Ls (.long y :: .long x :: st)) := by
  subst hp; exact own_st h (fun t k => XS.lsub X.here hx rfl hd rfl k)
theorem own_imul (X : Stand p l e R s m args below meth c T locs kc ks) (hx : p.tables.exec = Jvm.exec) {x y : Int32} (hd : decode c.code pc = .ok (.imul, 1)) (hp : pc + 1 = pc')  (h : own_Fin p.tables e below Rr T (mkF m pc' Ls (.int (x * y) :: st))) : own_Fin p.tables e below Rr T (mkF m pc Ls (.int y :: .int x :: st)) := by
  subst hp; exact own_st h (fun t k => XS.imul X.here hx rfl hd rfl k)
theorem own_lmul (X : Stand p l e R s m args below meth c T locs kc ks) (hx : p.tables.exec = Jvm.exec) {x y : Int64} (hd : decode c.code pc = .ok (.lmul, 1)) (hp : pc + 1 = pc')  (h : own_Fin p.tables e below Rr T (mkF m pc' Ls (.long (x * y) :: st))) : own_Fin p.tables e below Rr T (mkF m pc Ls (.long y :: .long x :: st)) := by
  subst hp; exact own_st h (fun t k => XS.lmul X.here hx rfl hd rfl k)
theorem own_iand (X : Stand p l e R s m args below meth c T locs kc ks) (hx : p.tables.exec = Jvm.exec) {x y : Int32} (hd : decode c.code pc = .ok (.iand, 1)) (hp : pc + 1 = pc')  (h : own_Fin p.tables e below Rr T (mkF m pc' Ls (.int (x &&& y) :: st))) : own_Fin p.tables e below Rr T (mkF m pc Ls (.int y :: .int x :: st)) := by
  subst hp; exact own_st h (fun t k => XS.iand X.here hx rfl hd rfl k)
theorem own_land (X : Stand p l e R s m args below meth c T locs kc ks) (hx : p.tables.exec = Jvm.exec) {x y : Int64} (hd : decode c.code pc = .ok (.land, 1)) (hp : pc + 1 = pc')  (h : own_Fin p.tables e below Rr T (mkF m pc' Ls (.long (x &&& y) :: st))) : own_Fin p.tables e below Rr T (mkF m pc Ls (.long y :: .long x :: st)) := by
  subst hp; exact own_st h (fun t k => XS.land X.here hx rfl hd rfl k)
theorem own_ior (X : Stand p l e R s m args below meth c T locs kc ks) (hx : p.tables.exec = Jvm.exec) {x y : Int32} (hd : decode c.code pc = .ok (.ior, 1)) (hp : pc + 1 = pc')  (h : own_Fin p.tables e below Rr T (mkF m pc' Ls (.int (x ||| y) :: st))) : own_Fin p.tables e below Rr T (mkF m pc Ls (.int y :: .int x :: st)) := by
  subst hp; exact own_st h (fun t k => XS.ior X.here hx rfl hd rfl k)
theorem own_lor (X : Stand p l e R s m args below meth c T locs kc ks) (hx : p.tables.exec = Jvm.exec) {x y : Int64} (hd : decode c.code pc = .ok (.lor, 1)) (hp : pc + 1 = pc')  (h : own_Fin p.tables e below Rr T (mkF m pc' Ls (.long (x ||| y) :: st))) : own_Fin p.tables e below Rr T (mkF m pc Ls (.long y :: .long x :: st)) := by
  subst hp; exact own_st h (fun t k => XS.lor X.here hx rfl hd rfl k)
theorem own_ixor (X : Stand p l e R s m args below meth c T locs kc ks) (hx : p.tables.exec = Jvm.exec) {x y : Int32} (hd : decode c.code pc = .ok (.ixor, 1)) (hp : pc + 1 = pc')  (h : own_Fin p.tables e below Rr T (mkF m pc' Ls (.int (x ^^^ y) :: st))) : own_Fin p.tables e below Rr T (mkF m pc Ls (.int y :: .int x :: st)) := by
  subst hp; exact own_st h (fun t k => XS.ixor X.here hx rfl hd rfl k)
theorem own_lxor (X : Stand p l e R s m args below meth c T locs kc ks) (hx : p.tables.exec = Jvm.exec) {x y : Int64} (hd : decode c.code pc = .ok (.lxor, 1)) (hp : pc + 1 = pc')  (h : own_Fin p.tables e below Rr T (mkF m pc' Ls (.long (x ^^^ y) :: st))) : own_Fin p.tables e below Rr T (mkF m pc Ls (.long y :: .long x :: st)) := by
  subst hp; exact own_st h (fun t k => XS.lxor X.here hx rfl hd rfl k)
theorem own_idiv (X : Stand p l e R s m args below meth c T locs kc ks) (hx : p.tables.exec = Jvm.exec) {x y : Int32} (hd : decode c.code pc = .ok (.idiv, 1)) (hp : pc + 1 = pc') (hy : y ≠ 0) (h : own_Fin p.tables e below Rr T (mkF m pc' Ls (.int (x / y) :: st))) : own_Fin p.tables e below Rr T (mkF m pc Ls (.int y :: .int x :: st)) := by
  subst hp; exact own_st h (fun t k => XS.idiv X.here hx rfl hd rfl hy k)
theorem own_ldiv (X : Stand p l e R s m args below meth c T locs kc ks) (hx : p.tables.exec = Jvm.exec) {x y : Int64} (hd : decode c.code pc = .ok (.ldiv, 1)) (hp : pc + 1 = pc') (hy : y ≠ 0) (h : own_Fin p.tables e below Rr T (mkF m pc' Ls (.long (x / y) :: st))) : own_Fin p.tables e below Rr T (mkF m pc Ls (.long y :: .long x :: st)) := by
  subst hp; exact own_st h (fun t k => XS.ldiv X.here hx rfl hd rfl hy k)
theorem own_irem (X : Stand p l e R s m args below meth c T locs kc ks) (hx : p.tables.exec = Jvm.exec) {x y : Int32} (hd : decode c.code pc = .ok (.irem, 1)) (hp : pc + 1 = pc') (hy : y ≠ 0) (h : own_Fin p.tables e below Rr T (mkF m pc' Ls (.int (x - (x / y) * y) :: st))) : own_Fin p.tables e below Rr T (mkF m pc Ls (.int y :: .int x :: st)) := by
  subst hp; exact own_st h (fun t k => XS.irem X.here hx rfl hd rfl hy k)
theorem own_lrem (X : Stand p l e R s m args below meth c T locs kc ks) (hx : p.tables.exec = Jvm.exec) {x y : Int64} (hd : decode c.code pc = .ok (.lrem, 1)) (hp : pc + 1 = pc') (hy : y ≠ 0) (h : own_Fin p.tables e below Rr T (mkF m pc' Ls (.long (x - (x / y) * y) :: st))) : own_Fin p.tables e below Rr T (mkF m pc Ls (.long y :: .long x :: st)) := by
  subst hp; exact own_st h (fun t k => XS.lrem X.here hx rfl hd rfl hy k)
theorem own_ishl (X : Stand p l e R s m args below meth c T locs kc ks) (hx : p.tables.exec = Jvm.exec) {x y : Int32} (hd : decode c.code pc = .ok (.ishl, 1)) (hp : pc + 1 = pc')  (h : own_Fin p.tables e below Rr T (mkF m pc' Ls (.int (x <<< (y &&& 31)) :: st))) : own_Fin p.tables e below Rr T (mkF m pc Ls (.int y :: .int x :: st)) := by
  subst hp; exact own_st h (fun t k => XS.ishl X.here hx rfl hd rfl k)
theorem own_ishr (X : Stand p l e R s m args below meth c T locs kc ks) (hx : p.tables.exec = Jvm.exec) {x y : Int32} (hd : decode c.code pc = .ok (.ishr, 1)) (hp : pc + 1 = pc')  (h : own_Fin p.tables e below Rr T (mkF m pc' Ls (.int (x >>> (y &&& 31)) :: st))) : own_Fin p.tables e below Rr T (mkF m pc Ls (.int y :: .int x :: st)) := by
  subst hp; exact own_st h (fun t k => XS.ishr X.here hx rfl hd rfl k)
theorem own_iushr (X : Stand p l e R s m args below meth c T locs kc ks) (hx : p.tables.exec = Jvm.exec) {x y : Int32} (hd : decode c.code pc = .ok (.iushr, 1)) (hp : pc + 1 = pc')  (h : own_Fin p.tables e below Rr T (mkF m pc' Ls (.int (own_ush32 x y) :: st))) : own_Fin p.tables e below Rr T (mkF m pc Ls (.int y :: .int x :: st)) := by
  subst hp; exact own_st h (fun t k => XS.iushr X.here hx rfl hd rfl k)
theorem own_lshl (X : Stand p l e R s m args below meth c T locs kc ks) (hx : p.tables.exec = Jvm.exec) {x : Int64} {y : Int32} (hd : decode c.code pc = .ok (.lshl, 1)) (hp : pc + 1 = pc')  (h : own_Fin p.tables e below Rr T (mkF m pc' Ls (.long (x <<< (y &&& 63).toInt64) :: st))) : own_Fin p.tables e below Rr T (mkF m pc Ls (.int y :: .long x :: st)) := by
  subst hp; exact own_st h (fun t k => XS.lshl X.here hx rfl hd rfl k)
theorem own_lshr (X : Stand p l e R s m args below meth c T locs kc ks) (hx : p.tables.exec = Jvm.exec) {x : Int64} {y : Int32} (hd : decode c.code pc = .ok (.lshr, 1)) (hp : pc + 1 = pc')  (h : own_Fin p.tables e below Rr T (mkF m pc' Ls (.long (x >>> (y &&& 63).toInt64) :: st))) : own_Fin p.tables e below Rr T (mkF m pc Ls (.int y :: .long x :: st)) := by
  subst hp; exact own_st h (fun t k => XS.lshr X.here hx rfl hd rfl k)
theorem own_lushr (X : Stand p l e R s m args below meth c T locs kc ks) (hx : p.tables.exec = Jvm.exec) {x : Int64} {y : Int32} (hd : decode c.code pc = .ok (.lushr, 1)) (hp : pc + 1 = pc')  (h : own_Fin p.tables e below Rr T (mkF m pc' Ls (.long (own_ush64 x y) :: st))) : own_Fin p.tables e below Rr T (mkF m pc Ls (.int y :: .long x :: st)) := by
  subst hp; exact own_st h (fun t k => XS.lushr X.here hx rfl hd rfl k)
theorem own_ineg (X : Stand p l e R s m args below meth c T locs kc ks) (hx : p.tables.exec = Jvm.exec) {x : Int32} (hd : decode c.code pc = .ok (.ineg, 1)) (hp : pc + 1 = pc')  (h : own_Fin p.tables e below Rr T (mkF m pc' Ls (.int (-x) :: st))) : own_Fin p.tables e below Rr T (mkF m pc Ls (.int x :: st)) := by
  subst hp; exact own_st h (fun t k => XS.ineg X.here hx rfl hd rfl k)
theorem own_lneg (X : Stand p l e R s m args below meth c T locs kc ks) (hx : p.tables.exec = Jvm.exec) {x : Int64} (hd : decode c.code pc = .ok (.lneg, 1)) (hp : pc + 1 = pc')  (h : own_Fin p.tables e below Rr T (mkF m pc' Ls (.long (-x) :: st))) : own_Fin p.tables e below Rr T (mkF m pc Ls (.long x :: st)) := by
  subst hp; exact own_st h (fun t k => XS.lneg X.here hx rfl hd rfl k)
theorem own_i2l (X : Stand p l e R s m args below meth c T locs kc ks) (hx : p.tables.exec = Jvm.exec) {x : Int32} (hd : decode c.code pc = .ok (.i2l, 1)) (hp : pc + 1 = pc')  (h : own_Fin p.tables e below Rr T (mkF m pc' Ls (.long (x.toInt64) :: st))) : own_Fin p.tables e below Rr T (mkF m pc Ls (.int x :: st)) := by
  subst hp; exact own_st h (fun t k => XS.i2l X.here hx rfl hd rfl k)
theorem own_l2i (X : Stand p l e R s m args below meth c T locs kc ks) (hx : p.tables.exec = Jvm.exec) {x : Int64} (hd : decode c.code pc = .ok (.l2i, 1)) (hp : pc + 1 = pc')  (h : own_Fin p.tables e below Rr T (mkF m pc' Ls (.int (x.toInt32) :: st))) : own_Fin p.tables e below Rr T (mkF m pc Ls (.long x :: st)) := by
  subst hp; exact own_st h (fun t k => XS.l2i X.here hx rfl hd rfl k)
theorem own_i2b (X : Stand p l e R s m args below meth c T locs kc ks) (hx : p.tables.exec = Jvm.exec) {x : Int32} (hd : decode c.code pc = .ok (.i2b, 1)) (hp : pc + 1 = pc')  (h : own_Fin p.tables e below Rr T (mkF m pc' Ls (.int (x.toInt8.toInt32) :: st))) : own_Fin p.tables e below Rr T (mkF m pc Ls (.int x :: st)) := by
  subst hp; exact own_st h (fun t k => XS.i2b X.here hx rfl hd rfl k)
theorem own_i2s (X : Stand p l e R s m args below meth c T locs kc ks) (hx : p.tables.exec = Jvm.exec) {x : Int32} (hd : decode c.code pc = .ok (.i2s, 1)) (hp : pc + 1 = pc')  (h : own_Fin p.tables e below Rr T (mkF m pc' Ls (.int (x.toInt16.toInt32) :: st))) : own_Fin p.tables e below Rr T (mkF m pc Ls (.int x :: st)) := by
  subst hp; exact own_st h (fun t k => XS.i2s X.here hx rfl hd rfl k)
theorem own_lcmp (X : Stand p l e R s m args below meth c T locs kc ks) (hx : p.tables.exec = Jvm.exec) {x y : Int64} (hd : decode c.code pc = .ok (.lcmp, 1)) (hp : pc + 1 = pc')  (h : own_Fin p.tables e below Rr T (mkF m pc' Ls (.int (lcmpW x y) :: st))) : own_Fin p.tables e below Rr T (mkF m pc Ls (.long y :: .long x :: st)) := by
  subst hp; exact own_st h (fun t k => XS.lcmp X.here hx rfl hd rfl k)
theorem own_iinc (X : Stand p l e R s m args below meth c T locs kc ks) (hx : p.tables.exec = Jvm.exec) {j : Nat} {i : Int} {x : Int32} (hd : decode c.code pc = .ok (.iinc j i, 3)) (hp : pc + 3 = pc') (hl : Ls[j]? = some (.val (.int x))) (hl' : storeLocals Ls j (.int (x + Int32.ofInt i)) = some Ls') (h : own_Fin p.tables e below Rr T (mkF m pc' Ls' st)) : own_Fin p.tables e below Rr T (mkF m pc Ls st) := by
  subst hp; exact own_st h (fun t k => XS.iinc X.here hx rfl hd hl hl' k)
theorem own_dup (X : Stand p l e R s m args below meth c T locs kc ks) (hx : p.tables.exec = Jvm.exec) {v : Value} (hd : decode c.code pc = .ok (.dup, 1)) (hp : pc + 1 = pc') (hc : v.category = 1) (h : own_Fin p.tables e below Rr T (mkF m pc' Ls (v :: v :: st))) : own_Fin p.tables e below Rr T (mkF m pc Ls (v :: st)) := by
  subst hp; exact own_st h (fun t k => XS.dup X.here hx rfl hd rfl hc k)
theorem own_pop (X : Stand p l e R s m args below meth c T locs kc ks) (hx : p.tables.exec = Jvm.exec) {v : Value} (hd : decode c.code pc = .ok (.pop, 1)) (hp : pc + 1 = pc') (hc : v.category = 1) (h : own_Fin p.tables e below Rr T (mkF m pc' Ls st)) : own_Fin p.tables e below Rr T (mkF m pc Ls (v :: st)) := by
  subst hp; exact own_st h (fun t k => XS.pop X.here hx rfl hd rfl hc k)
theorem own_goto (X : Stand p l e R s m args below meth c T locs kc ks) (hx : p.tables.exec = Jvm.exec) {o : Int} (hd : decode c.code pc = .ok (.goto o, 3))  (ho : 0 ≤ (pc : Int) + o) (hp : ((pc : Int) + o).toNat = pc') (h : own_Fin p.tables e below Rr T (mkF m pc' Ls st)) : own_Fin p.tables e below Rr T (mkF m pc Ls st) := own_st h (fun t k => XS.goto X.here hx rfl (pc0 := pc) (pc' := pc') rfl hd ho hp k)
theorem own_ifYes (X : Stand p l e R s m args below meth c T locs kc ks) (hx : p.tables.exec = Jvm.exec) {cd : ClassFile.Cond} {o : Int} {x : Int32} (hd : decode c.code pc = .ok (.ifCond cd o, 3)) (hc : ifCond.holds cd x = true) (ho : 0 ≤ (pc : Int) + o) (hp : ((pc : Int) + o).toNat = pc') (h : own_Fin p.tables e below Rr T (mkF m pc' Ls st)) : own_Fin p.tables e below Rr T (mkF m pc Ls (.int x :: st)) := own_st h (fun t k => XS.ifYes X.here hx rfl (pc0 := pc) (pc' := pc') rfl hd rfl hc ho hp k)
theorem own_icmpYes (X : Stand p l e R s m args below meth c T locs kc ks) (hx : p.tables.exec = Jvm.exec) {cd : ClassFile.Cond} {o : Int} {x y : Int32} (hd : decode c.code pc = .ok (.if_icmp cd o, 3)) (hc : if_icmp.holds cd x y = true) (ho : 0 ≤ (pc : Int) + o) (hp : ((pc : Int) + o).toNat = pc') (h : own_Fin p.tables e below Rr T (mkF m pc' Ls st)) : own_Fin p.tables e below Rr T (mkF m pc Ls (.int y :: .int x :: st)) := own_st h (fun t k => XS.icmpYes X.here hx rfl (pc0 := pc) (pc' := pc') rfl hd rfl hc ho hp k)
theorem own_ifNo (X : Stand p l e R s m args below meth c T locs kc ks) (hx : p.tables.exec = Jvm.exec) {cd : ClassFile.Cond} {o : Int} {x : Int32} (hd : decode c.code pc = .ok (.ifCond cd o, 3)) (hp : pc + 3 = pc') (hc : ifCond.holds cd x = false) (h : own_Fin p.tables e below Rr T (mkF m pc' Ls st)) : own_Fin p.tables e below Rr T (mkF m pc Ls (.int x :: st)) := by
  subst hp; exact own_st h (fun t k => XS.ifNo X.here hx rfl hd rfl hc k)
theorem own_icmpNo (X : Stand p l e R s m args below meth c T locs kc ks) (hx : p.tables.exec = Jvm.exec) {cd : ClassFile.Cond} {o : Int} {x y : Int32} (hd : decode c.code pc = .ok (.if_icmp cd o, 3)) (hp : pc + 3 = pc') (hc : if_icmp.holds cd x y = false) (h : own_Fin p.tables e below Rr T (mkF m pc' Ls st)) : own_Fin p.tables e below Rr T (mkF m pc Ls (.int y :: .int x :: st)) := by
  subst hp; exact own_st h (fun t k => XS.icmpNo X.here hx rfl hd rfl hc k)
theorem own_ldcInt (X : Stand p l e R s m args below meth c T locs kc ks) (hx : p.tables.exec = Jvm.exec) {own : String} {index : Nat} {v : Int32} (hZ : Z.Warmed39 s.vm) (hown : s.vm.findClass own = some m.cls) (w : (Jvm.Cond.constant own index v).before a0 Z = true) (hd : decode c.code pc = .ok (.ldc index, 2)) (hp : pc + 2 = pc') (h : own_Fin p.tables e below Rr T (mkF m pc' Ls (.int v :: st))) : own_Fin p.tables e below Rr T (mkF m pc Ls st) := by
  subst hp; exact own_st h (fun t k => X.ldcInt hx hown (mvT hZ w) (g := mkF m pc Ls st) rfl hd t k)
theorem own_ldc2Long (X : Stand p l e R s m args below meth c T locs kc ks) (hx : p.tables.exec = Jvm.exec) {own : String} {index : Nat} {v : Int64} (hZ : Z.Warmed39 s.vm) (hown : s.vm.findClass own = some m.cls) (w : (Jvm.Cond.constantLong own index v).before a0 Z = true) (hd : decode c.code pc = .ok (.ldc2_w index, 3)) (hp : pc + 3 = pc') (h : own_Fin p.tables e below Rr T (mkF m pc' Ls (.long v :: st))) : own_Fin p.tables e below Rr T (mkF m pc Ls st) := by
  subst hp; exact own_st h (fun t k => X.ldc2Long hx hown (mvT hZ w) (g := mkF m pc Ls st) rfl hd t k)
theorem own_getF (X : Stand p l e R s m args below meth c T locs kc ks) (hx : p.tables.exec = Jvm.exec) {own R0 O n d : String} {index : Nat} {a : Addr} {v : Value} (hZ : Z.Warmed39 s.vm) (hown : s.vm.findClass own = some m.cls) (w : (Jvm.Cond.fieldLink own index R0 n d).before a0 Z = true) (via : Via Z R0 O n d) (eT : T.heap = h) (Fl : Fld Z h a O n d v) (hd : decode c.code pc = .ok (.getfield index, 3)) (hp : pc + 3 = pc')
    (k : ∀ T', Stand p l e R s m args below meth c T' locs kc ks → T'.heap = h → own_Fin p.tables e below Rr T' (mkF m pc' Ls (v :: st))) : own_Fin p.tables e below Rr T (mkF m pc Ls (.ref a :: st)) := by
  obtain ⟨T', X', e', st'⟩ := getF X hx hZ hown (host := "") (Or.inl w) via eT Fl (g := mkF m pc Ls (.ref a :: st)) rfl rfl hd
  subst hp; exact own_st (k T' X' e') st'
end OwnStep
section OwnPop
variable {p : Program} {l : Launch} {e : Env} {R : Room} {s : State} {m : MethodId} {args : Array Value} {below : List Frame} {meth : Method} {c : Code} {T : State} {locs : List Loc} {k n : Nat}
theorem own_pop2 (X : Stand p l e R s m args below meth c T locs k n) (hx : p.tables.exec = Jvm.exec) {pc : Nat} {Ls : Array Slot} {z : Int64} {rest : List Value} {t : State} (hd : decode c.code pc = .ok (.pop2, 1)) (hr : Steps p.tables e below (T.setTop (mkF m (pc + 1) Ls rest)) t) : Steps p.tables e below (T.setTop (mkF m pc Ls (.long z :: rest))) t := by
  jvm_step X.here [X.here.top, hx, hd, Value.category]
  exact hr
end OwnPop
section OwnRet
variable {p : Program} {l : Launch} {e : Env} {R : Room} {s : State} {m : MethodId} {args : Array Value} {below : List Frame} {meth : Method} {c : Code} {T : State} {locs : List Loc} {k n k' n' : Nat} {Q : Option Value → Heap → List Loc → Prop} {pc : Nat} {Ls : Array Slot}
theorem own_retN (X : Stand p l e R s m args below meth c T locs k n) (hx : p.tables.exec = Jvm.exec) {t : FieldType} (hret : meth.sig.returnType = some t) (ht : t = .boolean ∨ t = .byte ∨ t = .char ∨ t = .short) (hlk : meth.locks = false) {z : Int32} {rest : List Value} (hd : decode c.code pc = .ok (.ireturn, 1)) (hk : k ≤ k') (hn : n ≤ n') (hq : Q (some (.int (nar t z))) T.heap locs) : own_Fin p.tables e below (own_End below s Q k' n') T (mkF m pc Ls (.int z :: rest)) := by
  obtain ⟨fs, hr, hrun, hended, hW, hsame⟩ := X.leave (v := some (.int (nar t z))) (fun h => by rw [hret] at h; cases h) hlk
  exact ⟨_, retN X hx hret ht hd hr, hrun, _, hended, _, _, rfl, hq, ⟨_, rfl⟩, hW, hsame.mono hk hn⟩
theorem own_retNW {vm₁ : Vm} {k0 : Nat} (X : Stand p l e R (s.setVm vm₁) m args below meth c T locs k n) (hx : p.tables.exec = Jvm.exec) (hS : s.Since vm₁ k0) (hk0 : k0 ≤ T.heap.size) {t : FieldType} (hret : meth.sig.returnType = some t) (ht : t = .boolean ∨ t = .byte ∨ t = .char ∨ t = .short) (hlk : meth.locks = false) {z : Int32} {rest : List Value} (hd : decode c.code pc = .ok (.ireturn, 1)) (hk : k ≤ k') (hn : n ≤ n') (hq : Q (some (.int (nar t z))) T.heap locs) : own_Fin p.tables e below (own_EndW below s Q k' n') T (mkF m pc Ls (.int z :: rest)) := by
  obtain ⟨fs, hr, hrun, hended, hW⟩ := X.leaveW hS hk0 (v := some (.int (nar t z))) (fun h => by rw [hret] at h; cases h) hlk
  exact ⟨_, retN X hx hret ht hd hr, hrun, _, hended, _, _, rfl, hq, hW.1, hW.2.1, hW.2.2.1, hW.2.2.2.mono hk hn⟩
theorem own_retI (X : Stand p l e R s m args below meth c T locs k n) (hx : p.tables.exec = Jvm.exec) (hret : meth.sig.returnType = some .int) (hlk : meth.locks = false) {z : Int32} {rest : List Value} (hd : decode c.code pc = .ok (.ireturn, 1)) (hk : k ≤ k') (hn : n ≤ n') (hq : Q (some (.int z)) T.heap locs) : own_Fin p.tables e below (own_End below s Q k' n') T (mkF m pc Ls (.int z :: rest)) := by
  obtain ⟨fs, hr, hrun, hended, hW, hsame⟩ := X.leave (v := some (.int z)) (fun h => by rw [hret] at h; cases h) hlk
  exact ⟨_, retI X hx hret hd hr, hrun, _, hended, _, _, rfl, hq, ⟨_, rfl⟩, hW, hsame.mono hk hn⟩
theorem own_retJ (X : Stand p l e R s m args below meth c T locs k n) (hx : p.tables.exec = Jvm.exec) (hret : meth.sig.returnType = some .long) (hlk : meth.locks = false) {z : Int64} (hd : decode c.code pc = .ok (.lreturn, 1)) (hk : k ≤ k') (hn : n ≤ n') (hq : Q (some (.long z)) T.heap locs) : own_Fin p.tables e below (own_End below s Q k' n') T (mkF m pc Ls [.long z]) := by
  obtain ⟨fs, hr, hrun, hended, hW, hsame⟩ := X.leave (v := some (.long z)) (fun h => by rw [hret] at h; cases h) hlk
  exact ⟨_, lreturnOut X hx hret hd hr, hrun, _, hended, _, _, rfl, hq, ⟨_, rfl⟩, hW, hsame.mono hk hn⟩
theorem own_retV (X : Stand p l e R s m args below meth c T locs k n) (hx : p.tables.exec = Jvm.exec) (hret : meth.sig.returnType = none) (hlk : meth.locks = false) (hd : decode c.code pc = .ok (.return_, 1)) (hk : k ≤ k') (hn : n ≤ n') (hq : Q none T.heap locs) : own_Fin p.tables e below (own_End below s Q k' n') T (mkF m pc Ls []) := by
  obtain ⟨fs, hr, hrun, hended, hW, hsame⟩ := X.leave (v := none) (fun _ => rfl) hlk
  exact ⟨_, X.returnOut hx hret hd hr, hrun, _, hended, _, _, rfl, hq, ⟨_, rfl⟩, hW, hsame.mono hk hn⟩
end OwnRet
end Jvm.Pilot.@@N@@
namespace Jvm.Pilot.@@N@@
open Jvm Jvm.ClassFile Sem Op Lib Jvm.Free Jvm.Stand Jvm.LawKit Jvm.RoadKit Bundle Jvm.Pilot.@@N@@.Jvm.D
theorem pd_0 : parseMethodDescriptor "()J" = some ⟨[], some .long⟩ := by decide +kernel
theorem pd_1 : parseMethodDescriptor "(II)I" = some ⟨[.int, .int], some .int⟩ := by decide +kernel
theorem pd_2 : parseMethodDescriptor "([BIIIJI)Z" = some ⟨[(.array .byte), .int, .int, .int, .long, .int], some .boolean⟩ := by decide +kernel
theorem pd_3 : parseMethodDescriptor "([B)V" = some ⟨[(.array .byte)], none⟩ := by decide +kernel
theorem pd_4 : parseMethodDescriptor "(IJ)J" = some ⟨[.int, .long], some .long⟩ := by decide +kernel
theorem pd_5 : parseMethodDescriptor "([BIIIJ)J" = some ⟨[(.array .byte), .int, .int, .int, .long], some .long⟩ := by decide +kernel
theorem pd_6 : parseMethodDescriptor "(ILjava/lang/String;)J" = some ⟨[.int, (.object "java/lang/String")], some .long⟩ := by decide +kernel
theorem own_b64 (x : Int64) : -9223372036854775808 ≤ x.toInt ∧ x.toInt < 9223372036854775808 := ⟨Int64.le_toInt x, Int64.toInt_lt x⟩
theorem own_b32 (x : Int32) : -2147483648 ≤ x.toInt ∧ x.toInt < 2147483648 := ⟨Int32.le_toInt x, Int32.toInt_lt x⟩
theorem own_wrap64 (n : Int) : ∃ k : Int, n.bmod (2 ^ 64) = n + k * 18446744073709551616 := by
  rw [Int.bmod_def]
  split
  · exact ⟨-(n / 18446744073709551616), by omega⟩
  · exact ⟨-(n / 18446744073709551616) - 1, by omega⟩
theorem own_add64 (x y : Int64) : ∃ k : Int, (x + y).toInt = x.toInt + y.toInt + k * 18446744073709551616 := by
  rw [Int64.toInt_add]; exact own_wrap64 _
theorem own_sub64 (x y : Int64) : ∃ k : Int, (x - y).toInt = x.toInt - y.toInt + k * 18446744073709551616 := by
  rw [Int64.toInt_sub]; exact own_wrap64 _
theorem own_wrap32 (n : Int) : ∃ k : Int, n.bmod (2 ^ 32) = n + k * 4294967296 := by
  rw [Int.bmod_def]
  split
  · exact ⟨-(n / 4294967296), by omega⟩
  · exact ⟨-(n / 4294967296) - 1, by omega⟩
theorem own_add32 (x y : Int32) : ∃ k : Int, (x + y).toInt = x.toInt + y.toInt + k * 4294967296 := by
  rw [Int32.toInt_add]; exact own_wrap32 _
theorem own_sub32 (x y : Int32) : ∃ k : Int, (x - y).toInt = x.toInt - y.toInt + k * 4294967296 := by
  rw [Int32.toInt_sub]; exact own_wrap32 _
theorem own_m63 (x : Int64) : (x &&& (9223372036854775807 : Int64)).toInt = x.toInt % 9223372036854775808 := Jvm.Kit.i64_mask x _ (k := 63) (by decide) (by decide)
theorem own_m31 (x : Int32) : (x &&& (2147483647 : Int32)).toInt = x.toInt % 2147483648 := Jvm.Kit.i32_mask x _ (k := 31) (by decide) (by decide)
theorem own_max64 : (9223372036854775807 : Int64).toInt = 9223372036854775807 := by decide
theorem own_lt64 {x y : Int64} : x < y ↔ x.toInt < y.toInt := Int64.lt_iff_toInt_lt
theorem own_lt32 {x y : Int32} : x < y ↔ x.toInt < y.toInt := Int32.lt_iff_toInt_lt
theorem own_eq64 {x y : Int64} : x = y ↔ x.toInt = y.toInt := Int64.toInt_inj.symm
theorem own_eq32 {x y : Int32} : x = y ↔ x.toInt = y.toInt := Int32.toInt_inj.symm
theorem own_rem32 (x y : Int32) (hx : 0 ≤ x.toInt) (hy : 0 < y.toInt) : (x - x / y * y).toInt = x.toInt % y.toInt := by
  have bx := own_b32 x; have by' := own_b32 y
  have hd : (x / y).toInt = x.toInt / y.toInt := by
    rw [Jvm.Kit.i32_div (by omega), Int.tdiv_eq_ediv_of_nonneg hx]
  have h1 : 0 ≤ x.toInt / y.toInt := Int.ediv_nonneg hx (by omega)
  have h2 : x.toInt / y.toInt * y.toInt ≤ x.toInt := Int.ediv_mul_le _ (by omega)
  have h3 : 0 ≤ x.toInt / y.toInt * y.toInt := Int.mul_nonneg h1 (by omega)
  have h4 : x.toInt % y.toInt = x.toInt - x.toInt / y.toInt * y.toInt := by rw [Int.emod_def, Int.mul_comm]
  have hm : (x / y * y).toInt = x.toInt / y.toInt * y.toInt := by
    rw [Jvm.Kit.i32_mul (by rw [hd]; omega) (by rw [hd]; omega), hd]
  rw [Jvm.Kit.i32_sub (by rw [hm]; omega) (by rw [hm]; omega), hm, h4]

theorem own_selP {Z s : State} {a0 args : Array Value} {K : String} {y x' z : MethodName} (hZ : Z.Warmed39 s.vm) (wi : (Jvm.Cond.instanceMethod y).before a0 Z = true) (wp : (Jvm.Cond.privateMethod y).before a0 Z = true) (wsl : (Jvm.Cond.selects K x' z).before a0 Z = true) (hcl : z.cls = y.cls := by rfl) (hy : y.cls ≠ "java/lang/invoke/MethodHandle" ∧ y.cls ≠ "java/lang/invoke/VarHandle" := by decide) : (Jvm.Cond.selects y.cls y y).before args s = true := by
  have w1 : (Jvm.Cond.selects K x' z).before args s = true := mvT hZ wsl
  obtain ⟨c, r, m, -, -, q3, -, k, hk, hni⟩ := Cond.selects_spec w1
  have hc := findClass_of_methodNamed q3
  rw [hcl] at hc
  exact selects_self_of_private hc hk hni (Cond.privateMethod_at (mvP hZ wp (args := #[]))) (mvT hZ wi) hy
theorem own_wS {Z : State} {a0 : Array Value} (hw : ∀ d ∈ tables_1, d.before a0 Z = true) : ∀ a ∈ Bundle.stringAtoms, a.before a0 Z = true := by
  intro a ha
  have e : Bundle.stringAtoms = [Jvm.Cond.initialized "java/lang/String", Jvm.Cond.instantiable "java/lang/String" 4, Jvm.Cond.arrayClass .byte, Jvm.Cond.laysFinal "java/lang/String" "java/lang/String" "value" "[B", Jvm.Cond.laysFinal "java/lang/String" "java/lang/String" "coder" "B", Jvm.Cond.soleField "java/lang/String" "value", Jvm.Cond.soleField "java/lang/String" "coder"] := rfl
  rw [e] at ha
  simp only [List.mem_cons, List.not_mem_nil, or_false] at ha
  rcases ha with rfl | rfl | rfl | rfl | rfl | rfl | rfl
  · exact hw _ (List.mem_of_getElem? (i := 37) rfl)
  · exact hw _ (List.mem_of_getElem? (i := 38) rfl)
  · exact hw _ (List.mem_of_getElem? (i := 1) rfl)
  · exact hw _ (List.mem_of_getElem? (i := 39) rfl)
  · exact hw _ (List.mem_of_getElem? (i := 40) rfl)
  · exact hw _ (List.mem_of_getElem? (i := 41) rfl)
  · exact hw _ (List.mem_of_getElem? (i := 42) rfl)
/-- a place below the end is inside the array; the end is at most 4 -/
theorem own_sz (z : Int32) : z.toInt64.toInt = z.toInt := Int32.toInt_toInt64 z
theorem own_d64 {z k : Int32} (h : 0 ≤ z.toInt ∧ z.toInt ≤ 4) (hk : 0 ≤ k.toInt ∧ k.toInt ≤ 4) : ((z - k).toInt64).toInt = z.toInt - k.toInt := by
  rw [own_sz, Jvm.Kit.i32_sub (by omega) (by omega)]
theorem own_e64 {s q : Int64} (hs : 0 ≤ s.toInt ∧ s.toInt ≤ 4) (hq : q.toInt ≤ 4) : ((s + q) + (1 : Int64)).toInt = s.toInt + q.toInt + 1 := by
  have b := own_b64 q
  have e1 : (1 : Int64).toInt = 1 := by decide
  have h1 : (s + q).toInt = s.toInt + q.toInt := Jvm.Kit.i64_add (by omega) (by omega)
  rw [Jvm.Kit.i64_add (by omega) (by omega), h1, e1]
theorem own_in1 {i : Int64} {j z : Int32} (hij : i.toInt = j.toInt) (h : i < z.toInt64) : j < z := by
  rw [own_lt64, own_sz] at h; rw [own_lt32]; omega
theorem own_in2 {i s q : Int64} {j k z : Int32} (hz : 0 ≤ z.toInt ∧ z.toInt ≤ 4) (hij : i.toInt = j.toInt ∧ s.toInt = k.toInt ∧ 0 ≤ k.toInt ∧ k.toInt ≤ 4) (hq : q < (z - k).toInt64) (h : i < ((s + q) + (1 : Int64))) : j < z := by
  rw [own_lt64, own_d64 hz hij.2.2] at hq
  rw [own_lt64, own_e64 (by omega) (by omega)] at h
  rw [own_lt32]; omega
theorem own_out1 {z : Int32} (hz : 0 ≤ z.toInt ∧ z.toInt ≤ 4) : ¬ ((4 : Int64) < z.toInt64) := by
  have e4 : (4 : Int64).toInt = 4 := by decide
  rw [own_lt64, own_sz, e4]; omega
theorem own_out2 {s q : Int64} {k z : Int32} (hz : 0 ≤ z.toInt ∧ z.toInt ≤ 4) (hij : s.toInt = k.toInt ∧ 0 ≤ k.toInt ∧ k.toInt ≤ 4) (hq : q < (z - k).toInt64) : ¬ ((4 : Int64) < ((s + q) + (1 : Int64))) := by
  have e4 : (4 : Int64).toInt = 4 := by decide
  rw [own_lt64, own_d64 hz hij.2] at hq
  rw [own_lt64, own_e64 (by omega) (by omega), e4]; omega
theorem own_nr (x : Int32) : 0 ≤ ((x &&& (7 : Int32)) - ((x &&& (7 : Int32)) / (5 : Int32)) * (5 : Int32)).toInt ∧ ((x &&& (7 : Int32)) - ((x &&& (7 : Int32)) / (5 : Int32)) * (5 : Int32)).toInt ≤ 4 := by
  have h : (x &&& (7 : Int32)).toInt = x.toInt % 8 := Jvm.Kit.i32_mask x _ (k := 3) (by decide) (by decide)
  have e : (5 : Int32).toInt = 5 := by decide
  rw [own_rem32 _ _ (by omega) (by omega), e]; omega
theorem own_n1 {x : Int32} (h : 0 ≤ x.toInt ∧ x.toInt ≤ 4) : (x + (1 : Int32)).toInt = x.toInt + 1 := by
  have e : (1 : Int32).toInt = 1 := by decide
  rw [Jvm.Kit.i32_add (by omega) (by omega), e]
theorem own_nz {x : Int32} (h : 0 ≤ x.toInt ∧ x.toInt ≤ 4) : x + (1 : Int32) ≠ 0 := by
  intro q
  have := own_n1 h
  rw [q] at this
  have e : (0 : Int32).toInt = 0 := by decide
  omega
theorem own_sr (x y : Int32) (h : 0 ≤ y.toInt ∧ y.toInt ≤ 4) : 0 ≤ ((x &&& (7 : Int32)) - ((x &&& (7 : Int32)) / (y + (1 : Int32))) * (y + (1 : Int32))).toInt ∧ ((x &&& (7 : Int32)) - ((x &&& (7 : Int32)) / (y + (1 : Int32))) * (y + (1 : Int32))).toInt ≤ y.toInt := by
  have h7 : (x &&& (7 : Int32)).toInt = x.toInt % 8 := Jvm.Kit.i32_mask x _ (k := 3) (by decide) (by decide)
  have e := own_n1 h
  rw [own_rem32 _ _ (by omega) (by omega), e]
  have h1 := Int.emod_nonneg (x &&& (7 : Int32)).toInt (b := y.toInt + 1) (by omega)
  have h2 := Int.emod_lt_of_pos (x &&& (7 : Int32)).toInt (b := y.toInt + 1) (by omega)
  omega
theorem own_or4 {x : Int32} (h : 0 ≤ x.toInt ∧ x.toInt ≤ 4) : x = 0 ∨ x = 1 ∨ x = 2 ∨ x = 3 ∨ x = 4 := by
  have e0 : (0 : Int32).toInt = 0 := by decide
  have e1 : (1 : Int32).toInt = 1 := by decide
  have e2 : (2 : Int32).toInt = 2 := by decide
  have e3 : (3 : Int32).toInt = 3 := by decide
  have e4 : (4 : Int32).toInt = 4 := by decide
  simp only [own_eq32]; omega
theorem own_sle {x y k : Int32} (h : 0 ≤ x.toInt ∧ x.toInt ≤ y.toInt) (hk : y = k) (h4 : k.toInt ≤ 4) : (x = 0 ∨ x = 1 ∨ x = 2 ∨ x = 3 ∨ x = 4) ∧ x.toInt ≤ k.toInt := by
  subst hk; exact ⟨own_or4 ⟨h.1, by omega⟩, h.2⟩
theorem d9_0 : decode jdk_29_method_69_code 0 = .ok (.iload_n 0, 1) := by decide +kernel
theorem d9_1 : decode jdk_29_method_69_code 1 = .ok (.iload_n 1, 1) := by decide +kernel
theorem d9_2 : decode jdk_29_method_69_code 2 = .ok (.if_icmp .gt 7, 3) := by decide +kernel
theorem d9_5 : decode jdk_29_method_69_code 5 = .ok (.iload_n 0, 1) := by decide +kernel
theorem d9_6 : decode jdk_29_method_69_code 6 = .ok (.goto 4, 3) := by decide +kernel
theorem d9_9 : decode jdk_29_method_69_code 9 = .ok (.iload_n 1, 1) := by decide +kernel
theorem d9_10 : decode jdk_29_method_69_code 10 = .ok (.ireturn, 1) := by decide +kernel
def own_f9 (q1 : Int32) (q2 : Int32) : Int32 :=
  if q2 < q1 then q2 else
  q1
set_option maxRecDepth 65536 in
set_option maxHeartbeats 40000000 in
theorem sg9_0 {p : Program} (l : Launch) {e : Env} {s : State} {m : MethodId} {args : Array Value} {below : List Frame} {meth : Method} {c : Code} {Z : State} {a0 : Array Value} (hw : ∀ d ∈ tables_1, d.before a0 Z = true) (hx : p.tables.exec = Jvm.exec) (hZ : Z.Warmed39 s.vm) (hby : c.code = jdk_29_method_69_code) (hml : c.maxLocals = 2) (hown : s.vm.findClass "java/lang/Math" = some m.cls) (hnm : meth.name = "min") (hret : meth.sig.returnType = (some .int)) (hlk : meth.locks = false) (q1 : Int32) (q2 : Int32) {h0 : Heap} {n0 : Nat} (Z0 : n0 ≤ h0.size) {T0 : State} {L0 : List Loc} (X0 : Stand p l e ({ frames := 0, cells := 0, slots := 0, locals := 0 } : Room) s m args below meth c T0 L0 0 0) (N0 : Fr n0 L0) (e0 : T0.heap = h0)  :
    own_Fin p.tables e below (own_End below s (own_P h0 n0 (some (.int (own_f9 q1 q2)))) 0 0) T0 (mkF m 0 #[.val (.int q1), .val (.int q2)] []) := by
  refine own_iloadN X0 hx (hb hby d9_0) (pc' := 1) rfl rfl ?_
  refine own_iloadN X0 hx (hb hby d9_1) (pc' := 2) rfl rfl ?_
  by_cases hc1 : q2 < q1
  · refine own_icmpYes X0 hx (hb hby d9_2) (tlt hc1).2.2.1 (pc' := 9) (by decide) (by decide) ?_
    refine own_iloadN X0 hx (hb hby d9_9) (pc' := 10) rfl rfl ?_
    refine own_retI X0 hx hret hlk (hb hby d9_10) (by decide) (by decide) ?_
    show own_P _ _ _ _ T0.heap _
    exact ⟨(congrArg some (congrArg Value.int (show q2 = (own_f9 q1 q2) from by rw [own_f9, if_pos hc1]))), N0, e0⟩
  · refine own_icmpNo X0 hx (hb hby d9_2) (pc' := 5) rfl (flt hc1).2.2.1 ?_
    refine own_iloadN X0 hx (hb hby d9_5) (pc' := 6) rfl rfl ?_
    refine own_goto X0 hx (hb hby d9_6) (pc' := 10) (by decide) (by decide) ?_
    refine own_retI X0 hx hret hlk (hb hby d9_10) (by decide) (by decide) ?_
    show own_P _ _ _ _ T0.heap _
    exact ⟨(congrArg some (congrArg Value.int (show q1 = (own_f9 q1 q2) from by rw [own_f9, if_neg hc1]))), N0, e0⟩
theorem ef_9 (m : MethodId) (q1 : Int32) (q2 : Int32) : entryFrame m #[(.int q1), (.int q2)] 2 = mkF m 0 #[.val (.int q1), .val (.int q2)] [] := by first | (simp [entryFrame, mkF, argsToLocals, Value.category]; done) | rfl
set_option maxRecDepth 65536 in
set_option maxHeartbeats 40000000 in
theorem rm9 (l : Launch) (Z : State) (a0 : Array Value) (hw : ∀ d ∈ tables_1, d.before a0 Z = true) (ws : List Jvm.Cond) (q1 : Int32) (q2 : Int32) (h0 : Heap) (n0 : Nat) (Z0 : n0 ≤ h0.size)  :
    MetFree l (⟨"java/lang/Math", "min", "(II)I"⟩ : MethodName) (head1 (Jvm.Cond.code (⟨"java/lang/Math", "min", "(II)I"⟩ : MethodName) jdk_29_method_69_code 2 (some .int) :: ws) ({ frames := 0, cells := 0, slots := 0, locals := 0 } : Room)) (fun a U => a = #[(.int q1), (.int q2)] ∧ Z.Warmed39 U.vm ∧ U.heap = h0) (fun _ _ _ _ _ => True) (fun _ U o U' => ∃ v L, o = .returned v ∧ (own_P h0 n0 (some (.int (own_f9 q1 q2)))) v U'.heap L ∧ FrameEnd U o U' L ({ frames := 0, cells := 0, slots := 0, locals := 0 } : Room).cells ({ frames := 0, cells := 0, slots := 0, locals := 0 } : Room).slots) := by
  refine MetFree.of_bodySF (Jvm.Free.JP.mathPlain rfl (by decide +kernel)) hisR ?_
  intro p e s m args below meth c s₁ Bd hml0 hP hK
  obtain ⟨rfl, hZ, hh⟩ := hP
  have hown : s.vm.findClass "java/lang/Math" = some m.cls := findClass_of_methodNamed Bd.named
  have hnm := (name_of_methodNamed Bd.named Bd.method).1
  have X0 : Stand p l e ({ frames := 0, cells := 0, slots := 0, locals := 0 } : Room) s m #[(.int q1), (.int q2)] below meth c s₁ [] 0 0 := Stand.of_body Bd
  have e0 : s₁.heap = h0 := by rw [← hh, Bd.state]; rfl
  have H := sg9_0 l hw Bd.exec hZ Bd.bytes hml0 hown hnm Bd.returns Bd.notSynchronized q1 q2 Z0 X0 (Fr.nil n0) e0
  obtain ⟨t, h1, h2, o, h3, h4⟩ := H
  exact ⟨t, o, castTop (ef_9 m q1 q2) h1, h2, h3, h4⟩
theorem d1_0 : decode prog_12_method_1_code 0 = .ok (.aload_n 0, 1) := by decide +kernel
theorem d1_1 : decode prog_12_method_1_code 1 = .ok (.invokespecial 1, 3) := by decide +kernel
theorem d1_4 : decode prog_12_method_1_code 4 = .ok (.aload_n 0, 1) := by decide +kernel
theorem d1_5 : decode prog_12_method_1_code 5 = .ok (.aload_n 1, 1) := by decide +kernel
theorem d1_6 : decode prog_12_method_1_code 6 = .ok (.putfield 7, 3) := by decide +kernel
theorem d1_9 : decode prog_12_method_1_code 9 = .ok (.return_, 1) := by decide +kernel
theorem pn_1 : plainName "com/example/typewire/typewire/packet/BitInput" = true := by first | (simp [plainName, overriddenIn]; done) | decide +kernel
def own_Q1 (Z : State) (q1 : Addr) (q2 : Addr) (h0 : Heap) (n0 : Nat) (v : Option Value) (h : Heap) (L : List Loc) : Prop := v = none ∧ Fr n0 L ∧ Keep h0 h [q1] ∧ Exa Z h q1 "com/example/typewire/typewire/packet/BitInput" ∧ Fld Z h q1 "com/example/typewire/typewire/packet/BitInput" "bytes" "[B" (.ref q2) ∧ Fld Z h q1 "com/example/typewire/typewire/packet/BitInput" "position" "J" (.long (0 : Int64))
set_option maxRecDepth 65536 in
set_option maxHeartbeats 40000000 in
theorem sg1_0 {p : Program} (l : Launch) {e : Env} {s : State} {m : MethodId} {args : Array Value} {below : List Frame} {meth : Method} {c : Code} {Z : State} {a0 : Array Value} (hw : ∀ d ∈ tables_1, d.before a0 Z = true) (hx : p.tables.exec = Jvm.exec) (hZ : Z.Warmed39 s.vm) (hby : c.code = prog_12_method_1_code) (hml : c.maxLocals = 2) (hown : s.vm.findClass "com/example/typewire/typewire/packet/BitInput" = some m.cls) (hnm : meth.name = "<init>") (hret : meth.sig.returnType = none) (hlk : meth.locks = false) (q1 : Addr) (q2 : Addr) {h0 : Heap} {n0 : Nat} (Z0 : n0 ≤ h0.size) {T0 : State} {L0 : List Loc} (X0 : Stand p l e ({ frames := 1, cells := 0, slots := 0, locals := 12 } : Room) s m args below meth c T0 L0 0 0) (N0 : Fr n0 L0) (e0 : T0.heap = h0) (E_q1 : Exa Z h0 q1 "com/example/typewire/typewire/packet/BitInput") (g_q1 : n0 ≤ q1) (F_bytes_q1 : Fld Z h0 q1 "com/example/typewire/typewire/packet/BitInput" "bytes" "[B" .null) (F_position_q1 : Fld Z h0 q1 "com/example/typewire/typewire/packet/BitInput" "position" "J" (.long (0 : Int64))) :
    own_Fin p.tables e below (own_End below s (own_Q1 Z q1 q2 h0 n0) 0 0) T0 (mkF m 0 #[.val (.ref q1), .val (.ref q2)] []) := by
  have K0 := Keep.refl h0 [q1]
  refine own_aloadN X0 hx (hb hby d1_0) (pc' := 1) rfl rfl rfl ?_
  obtain ⟨T2, X2, e2, st2⟩ := initO X0 hx hZ hown (hw _ (List.mem_of_getElem? (i := 8) rfl)) (hw _ (List.mem_of_getElem? (i := 9) rfl)) (hw _ (List.mem_of_getElem? (i := 10) rfl)) e0 (g := (mkF m 1 #[.val (.ref q1), .val (.ref q2)] [(.ref q1)])) rfl (by rw [hml]; rfl) rfl (hb hby d1_1) (by decide) (W := 0) (by show 2 * 0 + _ ≤ _; exact Nat.le_of_eq rfl) (by decide)
  refine own_st ?_ st2
  show own_Fin _ _ _ _ T2 (mkF m 4 #[.val (.ref q1), .val (.ref q2)] [])
  refine own_aloadN X2 hx (hb hby d1_4) (pc' := 5) rfl rfl rfl ?_
  refine own_aloadN X2 hx (hb hby d1_5) (pc' := 6) rfl rfl rfl ?_
  obtain ⟨T3, h3, X3, e3, W3, st3⟩ := putF X2 hx hZ hown (host := "") (Or.inl (hw _ (List.mem_of_getElem? (i := 11) rfl))) Via.refl e2 F_bytes_q1 E_q1 (Or.inr ⟨(hw _ (List.mem_of_getElem? (i := 12) rfl)), rfl, hnm⟩) (hw _ (List.mem_of_getElem? (i := 3) rfl)) (ty := (.array .byte)) (by decide) rfl rfl (g := (mkF m 6 #[.val (.ref q1), .val (.ref q2)] [(.ref q2), (.ref q1)])) rfl rfl (hb hby d1_6)
  have E_q1_3 : Exa Z h3 q1 "com/example/typewire/typewire/packet/BitInput" := E_q1.wr W3
  have F_q1_bytes_3 : Fld Z h3 q1 "com/example/typewire/typewire/packet/BitInput" "bytes" "[B" (.ref q2) := F_bytes_q1.same W3
  have F_q1_position_3 : Fld Z h3 q1 "com/example/typewire/typewire/packet/BitInput" "position" "J" (.long (0 : Int64)) := F_position_q1.other W3 (Or.inr (slot_ne (Or.inl (hw _ (List.mem_of_getElem? (i := 19) rfl))) (Or.inr (hw _ (List.mem_of_getElem? (i := 12) rfl))) (by decide) (t := .long) (t' := (.array .byte)) (by decide) (by decide)))
  have N3 := Fr.snoc X3 N0 g_q1
  have sz3 : n0 ≤ h3.size := Nat.le_trans Z0 (Keep.of_wr W3).1
  have K3 : Keep h0 h3 [q1] := K0.wr W3 (Or.inl (List.mem_of_getElem? (i := 0) rfl))
  refine own_st ?_ st3
  show own_Fin _ _ _ _ T3 (mkF m 9 #[.val (.ref q1), .val (.ref q2)] [])
  refine own_retV X3 hx hret hlk (hb hby d1_9) (by decide) (by decide) ?_
  show own_Q1 Z q1 q2 h0 n0 _ T3.heap _
  rw [e3]
  exact ⟨rfl, N3, K3, E_q1_3, F_q1_bytes_3, F_q1_position_3⟩
theorem ef_1 (m : MethodId) (q1 : Addr) (q2 : Addr) : entryFrame m #[(.ref q1), (.ref q2)] 2 = mkF m 0 #[.val (.ref q1), .val (.ref q2)] [] := by first | (simp [entryFrame, mkF, argsToLocals, Value.category]; done) | rfl
set_option maxRecDepth 65536 in
set_option maxHeartbeats 40000000 in
theorem rm1 (l : Launch) (Z : State) (a0 : Array Value) (hw : ∀ d ∈ tables_1, d.before a0 Z = true) (ws : List Jvm.Cond) (q1 : Addr) (q2 : Addr) (h0 : Heap) (n0 : Nat) (Z0 : n0 ≤ h0.size) (E_q1 : Exa Z h0 q1 "com/example/typewire/typewire/packet/BitInput") (g_q1 : n0 ≤ q1) (F_bytes_q1 : Fld Z h0 q1 "com/example/typewire/typewire/packet/BitInput" "bytes" "[B" .null) (F_position_q1 : Fld Z h0 q1 "com/example/typewire/typewire/packet/BitInput" "position" "J" (.long (0 : Int64))) :
    MetFree l (⟨"com/example/typewire/typewire/packet/BitInput", "<init>", "([B)V"⟩ : MethodName) (head1 (Jvm.Cond.code (⟨"com/example/typewire/typewire/packet/BitInput", "<init>", "([B)V"⟩ : MethodName) prog_12_method_1_code 2 none :: ws) ({ frames := 1, cells := 0, slots := 0, locals := 12 } : Room)) (fun a U => a = #[(.ref q1), (.ref q2)] ∧ Z.Warmed39 U.vm ∧ U.heap = h0) (fun _ _ _ _ _ => True) (fun _ U o U' => ∃ v L, o = .returned v ∧ (own_Q1 Z q1 q2 h0 n0) v U'.heap L ∧ FrameEnd U o U' L ({ frames := 1, cells := 0, slots := 0, locals := 12 } : Room).cells ({ frames := 1, cells := 0, slots := 0, locals := 12 } : Room).slots) := by
  refine MetFree.of_bodySF (plainFor_of_name pn_1) hisR ?_
  intro p e s m args below meth c s₁ Bd hml0 hP hK
  obtain ⟨rfl, hZ, hh⟩ := hP
  have hown : s.vm.findClass "com/example/typewire/typewire/packet/BitInput" = some m.cls := findClass_of_methodNamed Bd.named
  have hnm := (name_of_methodNamed Bd.named Bd.method).1
  have X0 : Stand p l e ({ frames := 1, cells := 0, slots := 0, locals := 12 } : Room) s m #[(.ref q1), (.ref q2)] below meth c s₁ [] 0 0 := Stand.of_body Bd
  have e0 : s₁.heap = h0 := by rw [← hh, Bd.state]; rfl
  have H := sg1_0 l hw Bd.exec hZ Bd.bytes hml0 hown hnm Bd.returns Bd.notSynchronized q1 q2 Z0 X0 (Fr.nil n0) e0 E_q1 g_q1 F_bytes_q1 F_position_q1
  obtain ⟨t, h1, h2, o, h3, h4⟩ := H
  exact ⟨t, o, castTop (ef_1 m q1 q2) h1, h2, h3, h4⟩
theorem d6_0 : decode prog_12_method_2_code 0 = .ok (.aload_n 0, 1) := by decide +kernel
theorem d6_1 : decode prog_12_method_2_code 1 = .ok (.getfield 13, 3) := by decide +kernel
theorem d6_4 : decode prog_12_method_2_code 4 = .ok (.lreturn, 1) := by decide +kernel
theorem pn_6 : plainName "com/example/typewire/typewire/packet/BitInput" = true := by first | (simp [plainName, overriddenIn]; done) | decide +kernel
def own_f6 (w_position_q1 : Int64) : Int64 :=
  w_position_q1
set_option maxRecDepth 65536 in
set_option maxHeartbeats 40000000 in
theorem sg6_0 {p : Program} (l : Launch) {e : Env} {s : State} {m : MethodId} {args : Array Value} {below : List Frame} {meth : Method} {c : Code} {Z : State} {a0 : Array Value} (hw : ∀ d ∈ tables_1, d.before a0 Z = true) (hx : p.tables.exec = Jvm.exec) (hZ : Z.Warmed39 s.vm) (hby : c.code = prog_12_method_2_code) (hml : c.maxLocals = 1) (hown : s.vm.findClass "com/example/typewire/typewire/packet/BitInput" = some m.cls) (hnm : meth.name = "position") (hret : meth.sig.returnType = (some .long)) (hlk : meth.locks = false) (q1 : Addr) (w_bytes_q1 : Addr) (w_position_q1 : Int64) {h0 : Heap} {n0 : Nat} (Z0 : n0 ≤ h0.size) {T0 : State} {L0 : List Loc} (X0 : Stand p l e ({ frames := 0, cells := 0, slots := 0, locals := 0 } : Room) s m args below meth c T0 L0 0 0) (N0 : Fr n0 L0) (e0 : T0.heap = h0) (E_q1 : Exa Z h0 q1 "com/example/typewire/typewire/packet/BitInput") (F_bytes_q1 : Fld Z h0 q1 "com/example/typewire/typewire/packet/BitInput" "bytes" "[B" (.ref w_bytes_q1)) (F_position_q1 : Fld Z h0 q1 "com/example/typewire/typewire/packet/BitInput" "position" "J" (.long w_position_q1)) :
    own_Fin p.tables e below (own_End below s (own_P h0 n0 (some (.long (own_f6 w_position_q1)))) 0 0) T0 (mkF m 0 #[.val (.ref q1)] []) := by
  refine own_aloadN X0 hx (hb hby d6_0) (pc' := 1) rfl rfl rfl ?_
  refine own_getF X0 hx hZ hown (hw _ (List.mem_of_getElem? (i := 18) rfl)) Via.refl e0 F_position_q1 (hb hby d6_1) (pc' := 4) rfl (fun T4 X4 e4 => ?_)
  refine own_retJ X4 hx hret hlk (hb hby d6_4) (by decide) (by decide) ?_
  show own_P _ _ _ _ T4.heap _
  exact ⟨(congrArg some (congrArg Value.long (show w_position_q1 = (own_f6 w_position_q1) from by rw [own_f6]))), N0, e4⟩
theorem ef_6 (m : MethodId) (q1 : Addr) : entryFrame m #[(.ref q1)] 1 = mkF m 0 #[.val (.ref q1)] [] := by first | (simp [entryFrame, mkF, argsToLocals, Value.category]; done) | rfl
set_option maxRecDepth 65536 in
set_option maxHeartbeats 40000000 in
theorem rm6 (l : Launch) (Z : State) (a0 : Array Value) (hw : ∀ d ∈ tables_1, d.before a0 Z = true) (ws : List Jvm.Cond) (q1 : Addr) (w_bytes_q1 : Addr) (w_position_q1 : Int64) (h0 : Heap) (n0 : Nat) (Z0 : n0 ≤ h0.size) (E_q1 : Exa Z h0 q1 "com/example/typewire/typewire/packet/BitInput") (F_bytes_q1 : Fld Z h0 q1 "com/example/typewire/typewire/packet/BitInput" "bytes" "[B" (.ref w_bytes_q1)) (F_position_q1 : Fld Z h0 q1 "com/example/typewire/typewire/packet/BitInput" "position" "J" (.long w_position_q1)) :
    MetFree l (⟨"com/example/typewire/typewire/packet/BitInput", "position", "()J"⟩ : MethodName) (head1 (Jvm.Cond.code (⟨"com/example/typewire/typewire/packet/BitInput", "position", "()J"⟩ : MethodName) prog_12_method_2_code 1 (some .long) :: ws) ({ frames := 0, cells := 0, slots := 0, locals := 0 } : Room)) (fun a U => a = #[(.ref q1)] ∧ Z.Warmed39 U.vm ∧ U.heap = h0) (fun _ _ _ _ _ => True) (fun _ U o U' => ∃ v L, o = .returned v ∧ (own_P h0 n0 (some (.long (own_f6 w_position_q1)))) v U'.heap L ∧ FrameEnd U o U' L ({ frames := 0, cells := 0, slots := 0, locals := 0 } : Room).cells ({ frames := 0, cells := 0, slots := 0, locals := 0 } : Room).slots) := by
  refine MetFree.of_bodySF (plainFor_of_name pn_6) hisR ?_
  intro p e s m args below meth c s₁ Bd hml0 hP hK
  obtain ⟨rfl, hZ, hh⟩ := hP
  have hown : s.vm.findClass "com/example/typewire/typewire/packet/BitInput" = some m.cls := findClass_of_methodNamed Bd.named
  have hnm := (name_of_methodNamed Bd.named Bd.method).1
  have X0 : Stand p l e ({ frames := 0, cells := 0, slots := 0, locals := 0 } : Room) s m #[(.ref q1)] below meth c s₁ [] 0 0 := Stand.of_body Bd
  have e0 : s₁.heap = h0 := by rw [← hh, Bd.state]; rfl
  have H := sg6_0 l hw Bd.exec hZ Bd.bytes hml0 hown hnm Bd.returns Bd.notSynchronized q1 w_bytes_q1 w_position_q1 Z0 X0 (Fr.nil n0) e0 E_q1 F_bytes_q1 F_position_q1
  obtain ⟨t, h1, h2, o, h3, h4⟩ := H
  exact ⟨t, o, castTop (ef_6 m q1) h1, h2, h3, h4⟩
theorem d8_0 : decode prog_12_method_9_code 0 = .ok (.ldc2_w 31, 3) := by decide +kernel
theorem d8_3 : decode prog_12_method_9_code 3 = .ok (.aload_n 0, 1) := by decide +kernel
theorem d8_4 : decode prog_12_method_9_code 4 = .ok (.getfield 7, 3) := by decide +kernel
theorem d8_7 : decode prog_12_method_9_code 7 = .ok (.arraylength, 1) := by decide +kernel
theorem d8_8 : decode prog_12_method_9_code 8 = .ok (.i2l, 1) := by decide +kernel
theorem d8_9 : decode prog_12_method_9_code 9 = .ok (.lmul, 1) := by decide +kernel
theorem d8_10 : decode prog_12_method_9_code 10 = .ok (.aload_n 0, 1) := by decide +kernel
theorem d8_11 : decode prog_12_method_9_code 11 = .ok (.getfield 13, 3) := by decide +kernel
theorem d8_14 : decode prog_12_method_9_code 14 = .ok (.lsub, 1) := by decide +kernel
theorem d8_15 : decode prog_12_method_9_code 15 = .ok (.lreturn, 1) := by decide +kernel
theorem pn_8 : plainName "com/example/typewire/typewire/packet/BitInput" = true := by first | (simp [plainName, overriddenIn]; done) | decide +kernel
def own_f8 (w_position_q1 : Int64) (z_q1 : Int32) (w0_w_bytes_q1 : Int32) (w1_w_bytes_q1 : Int32) (w2_w_bytes_q1 : Int32) (w3_w_bytes_q1 : Int32) : Int64 :=
  (((8 : Int64) * (z_q1.toInt64)) - w_position_q1)
set_option maxRecDepth 65536 in
set_option maxHeartbeats 40000000 in
theorem sg8_0 {p : Program} (l : Launch) {e : Env} {s : State} {m : MethodId} {args : Array Value} {below : List Frame} {meth : Method} {c : Code} {Z : State} {a0 : Array Value} (hw : ∀ d ∈ tables_1, d.before a0 Z = true) (hx : p.tables.exec = Jvm.exec) (hZ : Z.Warmed39 s.vm) (hby : c.code = prog_12_method_9_code) (hml : c.maxLocals = 1) (hown : s.vm.findClass "com/example/typewire/typewire/packet/BitInput" = some m.cls) (hnm : meth.name = "bitsLeft") (hret : meth.sig.returnType = (some .long)) (hlk : meth.locks = false) (q1 : Addr) (w_bytes_q1 : Addr) (w_position_q1 : Int64) (z_q1 : Int32) (kc_w_bytes_q1 : ClassId) (w0_w_bytes_q1 : Int32) (w1_w_bytes_q1 : Int32) (w2_w_bytes_q1 : Int32) (w3_w_bytes_q1 : Int32) {h0 : Heap} {n0 : Nat} (Z0 : n0 ≤ h0.size) {T0 : State} {L0 : List Loc} (X0 : Stand p l e ({ frames := 0, cells := 0, slots := 0, locals := 0 } : Room) s m args below meth c T0 L0 0 0) (N0 : Fr n0 L0) (e0 : T0.heap = h0) (E_q1 : Exa Z h0 q1 "com/example/typewire/typewire/packet/BitInput") (F_bytes_q1 : Fld Z h0 q1 "com/example/typewire/typewire/packet/BitInput" "bytes" "[B" (.ref w_bytes_q1)) (F_position_q1 : Fld Z h0 q1 "com/example/typewire/typewire/packet/BitInput" "position" "J" (.long w_position_q1)) (A_w_bytes_q1 : Arv Z h0 w_bytes_q1 kc_w_bytes_q1 .byte z_q1 [(.int w0_w_bytes_q1), (.int w1_w_bytes_q1), (.int w2_w_bytes_q1), (.int w3_w_bytes_q1)] (.int (0 : Int32))) :
    own_Fin p.tables e below (own_End below s (own_P h0 n0 (some (.long (own_f8 w_position_q1 z_q1 w0_w_bytes_q1 w1_w_bytes_q1 w2_w_bytes_q1 w3_w_bytes_q1)))) 0 0) T0 (mkF m 0 #[.val (.ref q1)] []) := by
  refine own_ldc2Long X0 hx hZ hown (hw _ (List.mem_of_getElem? (i := 20) rfl)) (hb hby d8_0) (pc' := 3) rfl ?_
  refine own_aloadN X0 hx (hb hby d8_3) (pc' := 4) rfl rfl rfl ?_
  refine own_getF X0 hx hZ hown (hw _ (List.mem_of_getElem? (i := 11) rfl)) Via.refl e0 F_bytes_q1 (hb hby d8_4) (pc' := 7) rfl (fun T5 X5 e5 => ?_)
  obtain ⟨cl6, Ar6, qa6, S6, M6, H6, G6⟩ := id A_w_bytes_q1
  refine own_st ?_ (fun t k => X5.arraylength hx (by rw [e5]; exact Ar6.1) (State.isArrayOf_alike hZ.alike Ar6.2.1) (g := (mkF m 7 #[.val (.ref q1)] [(.ref w_bytes_q1), (.long (8 : Int64))])) rfl rfl (hb hby d8_7) t k)
  rw [len_of S6 M6]
  show own_Fin _ _ _ _ T5 (mkF m 8 #[.val (.ref q1)] [(.int z_q1), (.long (8 : Int64))])
  refine own_i2l X5 hx (hb hby d8_8) (pc' := 9) rfl ?_
  refine own_lmul X5 hx (hb hby d8_9) (pc' := 10) rfl ?_
  refine own_aloadN X5 hx (hb hby d8_10) (pc' := 11) rfl rfl rfl ?_
  refine own_getF X5 hx hZ hown (hw _ (List.mem_of_getElem? (i := 18) rfl)) Via.refl e5 F_position_q1 (hb hby d8_11) (pc' := 14) rfl (fun T7 X7 e7 => ?_)
  refine own_lsub X7 hx (hb hby d8_14) (pc' := 15) rfl ?_
  refine own_retJ X7 hx hret hlk (hb hby d8_15) (by decide) (by decide) ?_
  show own_P _ _ _ _ T7.heap _
  exact ⟨(congrArg some (congrArg Value.long (show (((8 : Int64) * (z_q1.toInt64)) - w_position_q1) = (own_f8 w_position_q1 z_q1 w0_w_bytes_q1 w1_w_bytes_q1 w2_w_bytes_q1 w3_w_bytes_q1) from by rw [own_f8]))), N0, e7⟩
theorem ef_8 (m : MethodId) (q1 : Addr) : entryFrame m #[(.ref q1)] 1 = mkF m 0 #[.val (.ref q1)] [] := by first | (simp [entryFrame, mkF, argsToLocals, Value.category]; done) | rfl
set_option maxRecDepth 65536 in
set_option maxHeartbeats 40000000 in
theorem rm8 (l : Launch) (Z : State) (a0 : Array Value) (hw : ∀ d ∈ tables_1, d.before a0 Z = true) (ws : List Jvm.Cond) (q1 : Addr) (w_bytes_q1 : Addr) (w_position_q1 : Int64) (z_q1 : Int32) (kc_w_bytes_q1 : ClassId) (w0_w_bytes_q1 : Int32) (w1_w_bytes_q1 : Int32) (w2_w_bytes_q1 : Int32) (w3_w_bytes_q1 : Int32) (h0 : Heap) (n0 : Nat) (Z0 : n0 ≤ h0.size) (E_q1 : Exa Z h0 q1 "com/example/typewire/typewire/packet/BitInput") (F_bytes_q1 : Fld Z h0 q1 "com/example/typewire/typewire/packet/BitInput" "bytes" "[B" (.ref w_bytes_q1)) (F_position_q1 : Fld Z h0 q1 "com/example/typewire/typewire/packet/BitInput" "position" "J" (.long w_position_q1)) (A_w_bytes_q1 : Arv Z h0 w_bytes_q1 kc_w_bytes_q1 .byte z_q1 [(.int w0_w_bytes_q1), (.int w1_w_bytes_q1), (.int w2_w_bytes_q1), (.int w3_w_bytes_q1)] (.int (0 : Int32))) :
    MetFree l (⟨"com/example/typewire/typewire/packet/BitInput", "bitsLeft", "()J"⟩ : MethodName) (head1 (Jvm.Cond.code (⟨"com/example/typewire/typewire/packet/BitInput", "bitsLeft", "()J"⟩ : MethodName) prog_12_method_9_code 1 (some .long) :: ws) ({ frames := 0, cells := 0, slots := 0, locals := 0 } : Room)) (fun a U => a = #[(.ref q1)] ∧ Z.Warmed39 U.vm ∧ U.heap = h0) (fun _ _ _ _ _ => True) (fun _ U o U' => ∃ v L, o = .returned v ∧ (own_P h0 n0 (some (.long (own_f8 w_position_q1 z_q1 w0_w_bytes_q1 w1_w_bytes_q1 w2_w_bytes_q1 w3_w_bytes_q1)))) v U'.heap L ∧ FrameEnd U o U' L ({ frames := 0, cells := 0, slots := 0, locals := 0 } : Room).cells ({ frames := 0, cells := 0, slots := 0, locals := 0 } : Room).slots) := by
  refine MetFree.of_bodySF (plainFor_of_name pn_8) hisR ?_
  intro p e s m args below meth c s₁ Bd hml0 hP hK
  obtain ⟨rfl, hZ, hh⟩ := hP
  have hown : s.vm.findClass "com/example/typewire/typewire/packet/BitInput" = some m.cls := findClass_of_methodNamed Bd.named
  have hnm := (name_of_methodNamed Bd.named Bd.method).1
  have X0 : Stand p l e ({ frames := 0, cells := 0, slots := 0, locals := 0 } : Room) s m #[(.ref q1)] below meth c s₁ [] 0 0 := Stand.of_body Bd
  have e0 : s₁.heap = h0 := by rw [← hh, Bd.state]; rfl
  have H := sg8_0 l hw Bd.exec hZ Bd.bytes hml0 hown hnm Bd.returns Bd.notSynchronized q1 w_bytes_q1 w_position_q1 z_q1 kc_w_bytes_q1 w0_w_bytes_q1 w1_w_bytes_q1 w2_w_bytes_q1 w3_w_bytes_q1 Z0 X0 (Fr.nil n0) e0 E_q1 F_bytes_q1 F_position_q1 A_w_bytes_q1
  obtain ⟨t, h1, h2, o, h3, h4⟩ := H
  exact ⟨t, o, castTop (ef_8 m q1) h1, h2, h3, h4⟩
theorem d7_0 : decode prog_12_method_3_code 0 = .ok (.aload_n 0, 1) := by decide +kernel
theorem d7_1 : decode prog_12_method_3_code 1 = .ok (.invokevirtual 17, 3) := by decide +kernel
theorem d7_4 : decode prog_12_method_3_code 4 = .ok (.lstore_n 3, 1) := by decide +kernel
theorem d7_5 : decode prog_12_method_3_code 5 = .ok (.lload_n 3, 1) := by decide +kernel
theorem d7_6 : decode prog_12_method_3_code 6 = .ok (.iload_n 1, 1) := by decide +kernel
theorem d7_7 : decode prog_12_method_3_code 7 = .ok (.i2l, 1) := by decide +kernel
theorem d7_8 : decode prog_12_method_3_code 8 = .ok (.lcmp, 1) := by decide +kernel
theorem d7_9 : decode prog_12_method_3_code 9 = .ok (.ifCond .ge 19, 3) := by decide +kernel
theorem d7_12 : decode prog_12_method_3_code 12 = .ok (.aload_n 0, 1) := by decide +kernel
theorem d7_13 : decode prog_12_method_3_code 13 = .ok (.getfield 13, 3) := by decide +kernel
theorem d7_16 : decode prog_12_method_3_code 16 = .ok (.aload_n 2, 1) := by decide +kernel
theorem d7_17 : decode prog_12_method_3_code 17 = .ok (.iload_n 1, 1) := by decide +kernel
theorem d7_18 : decode prog_12_method_3_code 18 = .ok (.lload_n 3, 1) := by decide +kernel
theorem d7_19 : decode prog_12_method_3_code 19 = .ok (.invokedynamic 21, 5) := by decide +kernel
theorem d7_24 : decode prog_12_method_3_code 24 = .ok (.invokestatic 25, 3) := by decide +kernel
theorem d7_27 : decode prog_12_method_3_code 27 = .ok (.athrow, 1) := by decide +kernel
theorem d7_28 : decode prog_12_method_3_code 28 = .ok (.lconst 0, 1) := by decide +kernel
theorem d7_29 : decode prog_12_method_3_code 29 = .ok (.lstore 5, 2) := by decide +kernel
theorem d7_31 : decode prog_12_method_3_code 31 = .ok (.iload_n 1, 1) := by decide +kernel
theorem d7_32 : decode prog_12_method_3_code 32 = .ok (.istore 7, 2) := by decide +kernel
theorem d7_34 : decode prog_12_method_3_code 34 = .ok (.iload 7, 2) := by decide +kernel
theorem d7_36 : decode prog_12_method_3_code 36 = .ok (.ifCond .le 96, 3) := by decide +kernel
theorem d7_39 : decode prog_12_method_3_code 39 = .ok (.aload_n 0, 1) := by decide +kernel
theorem d7_40 : decode prog_12_method_3_code 40 = .ok (.getfield 13, 3) := by decide +kernel
theorem d7_43 : decode prog_12_method_3_code 43 = .ok (.ldc2_w 31, 3) := by decide +kernel
theorem d7_46 : decode prog_12_method_3_code 46 = .ok (.ldiv, 1) := by decide +kernel
theorem d7_47 : decode prog_12_method_3_code 47 = .ok (.l2i, 1) := by decide +kernel
theorem d7_48 : decode prog_12_method_3_code 48 = .ok (.istore 8, 2) := by decide +kernel
theorem d7_50 : decode prog_12_method_3_code 50 = .ok (.bipush 8, 2) := by decide +kernel
theorem d7_52 : decode prog_12_method_3_code 52 = .ok (.aload_n 0, 1) := by decide +kernel
theorem d7_53 : decode prog_12_method_3_code 53 = .ok (.getfield 13, 3) := by decide +kernel
theorem d7_56 : decode prog_12_method_3_code 56 = .ok (.ldc2_w 31, 3) := by decide +kernel
theorem d7_59 : decode prog_12_method_3_code 59 = .ok (.lrem, 1) := by decide +kernel
theorem d7_60 : decode prog_12_method_3_code 60 = .ok (.l2i, 1) := by decide +kernel
theorem d7_61 : decode prog_12_method_3_code 61 = .ok (.isub, 1) := by decide +kernel
theorem d7_62 : decode prog_12_method_3_code 62 = .ok (.istore 9, 2) := by decide +kernel
theorem d7_64 : decode prog_12_method_3_code 64 = .ok (.iload 9, 2) := by decide +kernel
theorem d7_66 : decode prog_12_method_3_code 66 = .ok (.iload 7, 2) := by decide +kernel
theorem d7_68 : decode prog_12_method_3_code 68 = .ok (.invokestatic 33, 3) := by decide +kernel
theorem d7_71 : decode prog_12_method_3_code 71 = .ok (.istore 10, 2) := by decide +kernel
theorem d7_73 : decode prog_12_method_3_code 73 = .ok (.aload_n 0, 1) := by decide +kernel
theorem d7_74 : decode prog_12_method_3_code 74 = .ok (.getfield 7, 3) := by decide +kernel
theorem d7_77 : decode prog_12_method_3_code 77 = .ok (.iload 8, 2) := by decide +kernel
theorem d7_79 : decode prog_12_method_3_code 79 = .ok (.baload, 1) := by decide +kernel
theorem d7_80 : decode prog_12_method_3_code 80 = .ok (.sipush 255, 3) := by decide +kernel
theorem d7_83 : decode prog_12_method_3_code 83 = .ok (.iand, 1) := by decide +kernel
theorem d7_84 : decode prog_12_method_3_code 84 = .ok (.iload 9, 2) := by decide +kernel
theorem d7_86 : decode prog_12_method_3_code 86 = .ok (.iload 10, 2) := by decide +kernel
theorem d7_88 : decode prog_12_method_3_code 88 = .ok (.isub, 1) := by decide +kernel
theorem d7_89 : decode prog_12_method_3_code 89 = .ok (.iushr, 1) := by decide +kernel
theorem d7_90 : decode prog_12_method_3_code 90 = .ok (.iconst 1, 1) := by decide +kernel
theorem d7_91 : decode prog_12_method_3_code 91 = .ok (.iload 10, 2) := by decide +kernel
theorem d7_93 : decode prog_12_method_3_code 93 = .ok (.ishl, 1) := by decide +kernel
theorem d7_94 : decode prog_12_method_3_code 94 = .ok (.iconst 1, 1) := by decide +kernel
theorem d7_95 : decode prog_12_method_3_code 95 = .ok (.isub, 1) := by decide +kernel
theorem d7_96 : decode prog_12_method_3_code 96 = .ok (.iand, 1) := by decide +kernel
theorem d7_97 : decode prog_12_method_3_code 97 = .ok (.istore 11, 2) := by decide +kernel
theorem d7_99 : decode prog_12_method_3_code 99 = .ok (.lload 5, 2) := by decide +kernel
theorem d7_101 : decode prog_12_method_3_code 101 = .ok (.iload 10, 2) := by decide +kernel
theorem d7_103 : decode prog_12_method_3_code 103 = .ok (.lshl, 1) := by decide +kernel
theorem d7_104 : decode prog_12_method_3_code 104 = .ok (.iload 11, 2) := by decide +kernel
theorem d7_106 : decode prog_12_method_3_code 106 = .ok (.i2l, 1) := by decide +kernel
theorem d7_107 : decode prog_12_method_3_code 107 = .ok (.lor, 1) := by decide +kernel
theorem d7_108 : decode prog_12_method_3_code 108 = .ok (.lstore 5, 2) := by decide +kernel
theorem d7_110 : decode prog_12_method_3_code 110 = .ok (.aload_n 0, 1) := by decide +kernel
theorem d7_111 : decode prog_12_method_3_code 111 = .ok (.dup, 1) := by decide +kernel
theorem d7_112 : decode prog_12_method_3_code 112 = .ok (.getfield 13, 3) := by decide +kernel
theorem d7_115 : decode prog_12_method_3_code 115 = .ok (.iload 10, 2) := by decide +kernel
theorem d7_117 : decode prog_12_method_3_code 117 = .ok (.i2l, 1) := by decide +kernel
theorem d7_118 : decode prog_12_method_3_code 118 = .ok (.ladd, 1) := by decide +kernel
theorem d7_119 : decode prog_12_method_3_code 119 = .ok (.putfield 13, 3) := by decide +kernel
theorem d7_122 : decode prog_12_method_3_code 122 = .ok (.iload 7, 2) := by decide +kernel
theorem d7_124 : decode prog_12_method_3_code 124 = .ok (.iload 10, 2) := by decide +kernel
theorem d7_126 : decode prog_12_method_3_code 126 = .ok (.isub, 1) := by decide +kernel
theorem d7_127 : decode prog_12_method_3_code 127 = .ok (.istore 7, 2) := by decide +kernel
theorem d7_129 : decode prog_12_method_3_code 129 = .ok (.goto (-95), 3) := by decide +kernel
theorem d7_132 : decode prog_12_method_3_code 132 = .ok (.lload 5, 2) := by decide +kernel
theorem d7_134 : decode prog_12_method_3_code 134 = .ok (.lreturn, 1) := by decide +kernel
theorem pn_7 : plainName "com/example/typewire/typewire/packet/BitInput" = true := by first | (simp [plainName, overriddenIn]; done) | decide +kernel
def own_f7s1 (z_q1 : Int32) (w0_w_bytes_q1 : Int32) (w1_w_bytes_q1 : Int32) (w2_w_bytes_q1 : Int32) (w3_w_bytes_q1 : Int32) : Int64 :=
  ((0 : Int64) ||| (((own_ush32 (w0_w_bytes_q1 &&& (255 : Int32)) (0 : Int32)) &&& (255 : Int32)).toInt64))
def own_Q7s1 (Z : State) (q1 : Addr) (q3 : Addr) (w_bytes_q1 : Addr) (z_q1 : Int32) (kc_w_bytes_q1 : ClassId) (w0_w_bytes_q1 : Int32) (w1_w_bytes_q1 : Int32) (w2_w_bytes_q1 : Int32) (w3_w_bytes_q1 : Int32) (h0 : Heap) (n0 : Nat) (v : Option Value) (h : Heap) (L : List Loc) : Prop := v = some (.long (own_f7s1 z_q1 w0_w_bytes_q1 w1_w_bytes_q1 w2_w_bytes_q1 w3_w_bytes_q1)) ∧ Fr n0 L ∧ Keep h0 h [q1, w_bytes_q1] ∧ Exa Z h q1 "com/example/typewire/typewire/packet/BitInput" ∧ Fld Z h q1 "com/example/typewire/typewire/packet/BitInput" "bytes" "[B" (.ref w_bytes_q1) ∧ Fld Z h q1 "com/example/typewire/typewire/packet/BitInput" "position" "J" (.long (8 : Int64)) ∧ Arv Z h w_bytes_q1 kc_w_bytes_q1 .byte z_q1 [(.int w0_w_bytes_q1), (.int w1_w_bytes_q1), (.int w2_w_bytes_q1), (.int w3_w_bytes_q1)] (.int (0 : Int32))
set_option maxRecDepth 65536 in
set_option maxHeartbeats 40000000 in
theorem sg7s1_0 {p : Program} (l : Launch) {e : Env} {s : State} {m : MethodId} {args : Array Value} {below : List Frame} {meth : Method} {c : Code} {Z : State} {a0 : Array Value} (hw : ∀ d ∈ tables_1, d.before a0 Z = true) (hx : p.tables.exec = Jvm.exec) (hZ : Z.Warmed39 s.vm) (hby : c.code = prog_12_method_3_code) (hml : c.maxLocals = 12) (hown : s.vm.findClass "com/example/typewire/typewire/packet/BitInput" = some m.cls) (hnm : meth.name = "readBits") (hret : meth.sig.returnType = (some .long)) (hlk : meth.locks = false) (q1 : Addr) (q3 : Addr) (w_bytes_q1 : Addr) (z_q1 : Int32) (kc_w_bytes_q1 : ClassId) (w0_w_bytes_q1 : Int32) (w1_w_bytes_q1 : Int32) (w2_w_bytes_q1 : Int32) (w3_w_bytes_q1 : Int32) {h0 : Heap} {n0 : Nat} (Z0 : n0 ≤ h0.size) {T0 : State} {L0 : List Loc} (X0 : Stand p l e ({ frames := 1, cells := 0, slots := 0, locals := 13 } : Room) s m args below meth c T0 L0 0 0) (N0 : Fr n0 L0) (e0 : T0.heap = h0) (E_q1 : Exa Z h0 q1 "com/example/typewire/typewire/packet/BitInput") (g_q1 : n0 ≤ q1) (F_bytes_q1 : Fld Z h0 q1 "com/example/typewire/typewire/packet/BitInput" "bytes" "[B" (.ref w_bytes_q1)) (F_position_q1 : Fld Z h0 q1 "com/example/typewire/typewire/packet/BitInput" "position" "J" (.long (0 : Int64))) (A_w_bytes_q1 : Arv Z h0 w_bytes_q1 kc_w_bytes_q1 .byte z_q1 [(.int w0_w_bytes_q1), (.int w1_w_bytes_q1), (.int w2_w_bytes_q1), (.int w3_w_bytes_q1)] (.int (0 : Int32))) (g_w_bytes_q1 : n0 ≤ w_bytes_q1) (ne_q1_w_bytes_q1 : q1 ≠ w_bytes_q1) (hz : (0 : Int32) < z_q1) (hc9 : ¬ ((((8 : Int64) * (z_q1.toInt64)) - (0 : Int64)) < (8 : Int64))) :
    own_Fin p.tables e below (own_End below s (own_Q7s1 Z q1 q3 w_bytes_q1 z_q1 kc_w_bytes_q1 w0_w_bytes_q1 w1_w_bytes_q1 w2_w_bytes_q1 w3_w_bytes_q1 h0 n0) 0 0) T0 (mkF m 0 #[.val (.ref q1), .val (.int (8 : Int32)), .val (.ref q3), .unset, .unset, .unset, .unset, .unset, .unset, .unset, .unset, .unset] []) := by
  have K0 := Keep.refl h0 [q1, w_bytes_q1]
  refine own_aloadN X0 hx (hb hby d7_0) (pc' := 1) rfl rfl rfl ?_
  obtain ⟨cq8, q8, q8'⟩ := E_q1.cell
  obtain ⟨_, _, ⟨T8, L8, k8, n8⟩, -, X8, ⟨Lc8, hQ8, l8, y8, z8⟩, st8⟩ := X0.privateBack hx (y := (⟨"com/example/typewire/typewire/packet/BitInput", "bitsLeft", "()J"⟩ : MethodName)) hown (mvT hZ (hw _ (List.mem_of_getElem? (i := 48) rfl))) (mvT hZ (hw _ (List.mem_of_getElem? (i := 49) rfl))) (own_selP hZ (hw _ (List.mem_of_getElem? (i := 49) rfl)) (hw _ (List.mem_of_getElem? (i := 50) rfl)) (hw _ (List.mem_of_getElem? (i := 16) rfl))) (Cond.privateMethod_at (mvP hZ (hw _ (List.mem_of_getElem? (i := 50) rfl)) (args := #[]))) (mvT hZ (hw _ (List.mem_of_getElem? (i := 51) rfl))) (by decide) (backOf (W := 0) (rm8 l Z a0 hw [] q1 w_bytes_q1 (0 : Int64) z_q1 kc_w_bytes_q1 w0_w_bytes_q1 w1_w_bytes_q1 w2_w_bytes_q1 w3_w_bytes_q1 h0 n0 Z0 E_q1 F_bytes_q1 F_position_q1 A_w_bytes_q1) hZ (hw _ (List.mem_of_getElem? (i := 51) rfl)) (hw _ (List.mem_of_getElem? (i := 4) rfl)) (by decide) (by decide)) (g := (mkF m 1 #[.val (.ref q1), .val (.int (8 : Int32)), .val (.ref q3), .unset, .unset, .unset, .unset, .unset, .unset, .unset, .unset, .unset] [(.ref q1)])) rfl (by rw [hml]; rfl) (Steps.refl _) (a := q1) (by rw [e0]; exact q8) q8' (argsL := []) (rest := []) (lenOf pd_0 rfl) rfl (by show 2 * 0 + _ ≤ _; exact Nat.le_of_eq rfl) (hb hby d7_1) (fun _ _ => ⟨rfl, e0, (by decide : 0 + 0 ≤ _), (by decide : 0 + 0 ≤ _)⟩)
  dsimp only [Pt.U, Pt.locs, Pt.cells, Pt.slots] at X8 l8 y8 z8 st8 hQ8
  subst l8 y8 z8
  obtain ⟨rfl, N8q, e8'⟩ := hQ8
  have N8 := Fr.app N0 N8q
  refine own_st ?_ (fun t k => st8.trans k)
  show own_Fin _ _ _ _ T8 (mkF m 4 #[.val (.ref q1), .val (.int (8 : Int32)), .val (.ref q3), .unset, .unset, .unset, .unset, .unset, .unset, .unset, .unset, .unset] [(.long (((8 : Int64) * (z_q1.toInt64)) - (0 : Int64)))])
  refine own_lstoreN X8 hx (hb hby d7_4) (pc' := 5) rfl (Ls' := #[.val (.ref q1), .val (.int (8 : Int32)), .val (.ref q3), .val (.long (((8 : Int64) * (z_q1.toInt64)) - (0 : Int64))), .second, .unset, .unset, .unset, .unset, .unset, .unset, .unset]) rfl ?_
  refine own_lloadN X8 hx (hb hby d7_5) (pc' := 6) rfl rfl ?_
  refine own_iloadN X8 hx (hb hby d7_6) (pc' := 7) rfl rfl ?_
  refine own_i2l X8 hx (hb hby d7_7) (pc' := 8) rfl ?_
  show own_Fin _ _ _ _ T8 (mkF m 8 #[.val (.ref q1), .val (.int (8 : Int32)), .val (.ref q3), .val (.long (((8 : Int64) * (z_q1.toInt64)) - (0 : Int64))), .second, .unset, .unset, .unset, .unset, .unset, .unset, .unset] [(.long (8 : Int64)), (.long (((8 : Int64) * (z_q1.toInt64)) - (0 : Int64)))])
  refine own_lcmp X8 hx (hb hby d7_8) (pc' := 9) rfl ?_
  refine own_ifYes X8 hx (hb hby d7_9) ((if0 _ _).trans (flt (mt own_lc_lt.mp hc9)).2.1) (pc' := 28) (by decide) (by decide) ?_
  refine own_lconst X8 hx (hb hby d7_28) (pc' := 29) rfl (v := (0 : Int64)) rfl ?_
  refine own_lstore X8 hx (hb hby d7_29) (pc' := 31) rfl (Ls' := #[.val (.ref q1), .val (.int (8 : Int32)), .val (.ref q3), .val (.long (((8 : Int64) * (z_q1.toInt64)) - (0 : Int64))), .second, .val (.long (0 : Int64)), .second, .unset, .unset, .unset, .unset, .unset]) rfl ?_
  refine own_iloadN X8 hx (hb hby d7_31) (pc' := 32) rfl rfl ?_
  refine own_istore X8 hx (hb hby d7_32) (pc' := 34) rfl (Ls' := #[.val (.ref q1), .val (.int (8 : Int32)), .val (.ref q3), .val (.long (((8 : Int64) * (z_q1.toInt64)) - (0 : Int64))), .second, .val (.long (0 : Int64)), .second, .val (.int (8 : Int32)), .unset, .unset, .unset, .unset]) rfl ?_
  refine own_iload X8 hx (hb hby d7_34) (pc' := 36) rfl rfl ?_
  refine own_ifNo X8 hx (hb hby d7_36) (pc' := 39) rfl ((if0 _ _).trans (tlt (by decide : (0 : Int32) < (8 : Int32))).2.2.2) ?_
  refine own_aloadN X8 hx (hb hby d7_39) (pc' := 40) rfl rfl rfl ?_
  refine own_getF X8 hx hZ hown (hw _ (List.mem_of_getElem? (i := 18) rfl)) Via.refl e8' F_position_q1 (hb hby d7_40) (pc' := 43) rfl (fun T9 X9 e9 => ?_)
  refine own_ldc2Long X9 hx hZ hown (hw _ (List.mem_of_getElem? (i := 20) rfl)) (hb hby d7_43) (pc' := 46) rfl ?_
  refine own_ldiv X9 hx (hb hby d7_46) (pc' := 47) rfl (by decide) ?_
  show own_Fin _ _ _ _ T9 (mkF m 47 #[.val (.ref q1), .val (.int (8 : Int32)), .val (.ref q3), .val (.long (((8 : Int64) * (z_q1.toInt64)) - (0 : Int64))), .second, .val (.long (0 : Int64)), .second, .val (.int (8 : Int32)), .unset, .unset, .unset, .unset] [(.long (0 : Int64))])
  refine own_l2i X9 hx (hb hby d7_47) (pc' := 48) rfl ?_
  show own_Fin _ _ _ _ T9 (mkF m 48 #[.val (.ref q1), .val (.int (8 : Int32)), .val (.ref q3), .val (.long (((8 : Int64) * (z_q1.toInt64)) - (0 : Int64))), .second, .val (.long (0 : Int64)), .second, .val (.int (8 : Int32)), .unset, .unset, .unset, .unset] [(.int (0 : Int32))])
  refine own_istore X9 hx (hb hby d7_48) (pc' := 50) rfl (Ls' := #[.val (.ref q1), .val (.int (8 : Int32)), .val (.ref q3), .val (.long (((8 : Int64) * (z_q1.toInt64)) - (0 : Int64))), .second, .val (.long (0 : Int64)), .second, .val (.int (8 : Int32)), .val (.int (0 : Int32)), .unset, .unset, .unset]) rfl ?_
  refine own_bipush X9 hx (hb hby d7_50) (pc' := 52) rfl (v := (8 : Int32)) rfl ?_
  refine own_aloadN X9 hx (hb hby d7_52) (pc' := 53) rfl rfl rfl ?_
  refine own_getF X9 hx hZ hown (hw _ (List.mem_of_getElem? (i := 18) rfl)) Via.refl e9 F_position_q1 (hb hby d7_53) (pc' := 56) rfl (fun T10 X10 e10 => ?_)
  refine own_ldc2Long X10 hx hZ hown (hw _ (List.mem_of_getElem? (i := 20) rfl)) (hb hby d7_56) (pc' := 59) rfl ?_
  refine own_lrem X10 hx (hb hby d7_59) (pc' := 60) rfl (by decide) ?_
  show own_Fin _ _ _ _ T10 (mkF m 60 #[.val (.ref q1), .val (.int (8 : Int32)), .val (.ref q3), .val (.long (((8 : Int64) * (z_q1.toInt64)) - (0 : Int64))), .second, .val (.long (0 : Int64)), .second, .val (.int (8 : Int32)), .val (.int (0 : Int32)), .unset, .unset, .unset] [(.long (0 : Int64)), (.int (8 : Int32))])
  refine own_l2i X10 hx (hb hby d7_60) (pc' := 61) rfl ?_
  show own_Fin _ _ _ _ T10 (mkF m 61 #[.val (.ref q1), .val (.int (8 : Int32)), .val (.ref q3), .val (.long (((8 : Int64) * (z_q1.toInt64)) - (0 : Int64))), .second, .val (.long (0 : Int64)), .second, .val (.int (8 : Int32)), .val (.int (0 : Int32)), .unset, .unset, .unset] [(.int (0 : Int32)), (.int (8 : Int32))])
  refine own_isub X10 hx (hb hby d7_61) (pc' := 62) rfl ?_
  show own_Fin _ _ _ _ T10 (mkF m 62 #[.val (.ref q1), .val (.int (8 : Int32)), .val (.ref q3), .val (.long (((8 : Int64) * (z_q1.toInt64)) - (0 : Int64))), .second, .val (.long (0 : Int64)), .second, .val (.int (8 : Int32)), .val (.int (0 : Int32)), .unset, .unset, .unset] [(.int (8 : Int32))])
  refine own_istore X10 hx (hb hby d7_62) (pc' := 64) rfl (Ls' := #[.val (.ref q1), .val (.int (8 : Int32)), .val (.ref q3), .val (.long (((8 : Int64) * (z_q1.toInt64)) - (0 : Int64))), .second, .val (.long (0 : Int64)), .second, .val (.int (8 : Int32)), .val (.int (0 : Int32)), .val (.int (8 : Int32)), .unset, .unset]) rfl ?_
  refine own_iload X10 hx (hb hby d7_64) (pc' := 66) rfl rfl ?_
  refine own_iload X10 hx (hb hby d7_66) (pc' := 68) rfl rfl ?_
  obtain ⟨_, _, ⟨T11, L11, k11, n11⟩, -, X11, ⟨Lc11, hQ11, l11, y11, z11⟩, st11⟩ := Jvm.LawKit.callS X10 hx (y := (⟨"java/lang/Math", "min", "(II)I"⟩ : MethodName)) hown (mvT hZ (hw _ (List.mem_of_getElem? (i := 52) rfl))) (mvT hZ (hw _ (List.mem_of_getElem? (i := 53) rfl))) (mvT hZ (hw _ (List.mem_of_getElem? (i := 54) rfl))) (mvT hZ (hw _ (List.mem_of_getElem? (i := 55) rfl))) (by decide) (backOf (W := 0) (rm9 l Z a0 hw [] (8 : Int32) (8 : Int32) h0 n0 Z0 ) hZ (hw _ (List.mem_of_getElem? (i := 55) rfl)) (hw _ (List.mem_of_getElem? (i := 54) rfl)) (by decide) (by decide)) (g := (mkF m 68 #[.val (.ref q1), .val (.int (8 : Int32)), .val (.ref q3), .val (.long (((8 : Int64) * (z_q1.toInt64)) - (0 : Int64))), .second, .val (.long (0 : Int64)), .second, .val (.int (8 : Int32)), .val (.int (0 : Int32)), .val (.int (8 : Int32)), .unset, .unset] [(.int (8 : Int32)), (.int (8 : Int32))])) rfl (by rw [hml]; rfl) (argsL := [(.int (8 : Int32)), (.int (8 : Int32))]) (rest := []) (lenOf pd_1 rfl) rfl (by show 2 * 0 + _ ≤ _; exact Nat.le_of_eq rfl) (hb hby d7_68) (fun _ _ => ⟨rfl, e10, (by decide : 0 + 0 ≤ _), (by decide : 0 + 0 ≤ _)⟩)
  dsimp only [Pt.U, Pt.locs, Pt.cells, Pt.slots] at X11 l11 y11 z11 st11 hQ11
  subst l11 y11 z11
  obtain ⟨rfl, N11q, e11'⟩ := hQ11
  have N11 := Fr.app N8 N11q
  refine own_st ?_ st11
  show own_Fin _ _ _ _ T11 (mkF m 71 #[.val (.ref q1), .val (.int (8 : Int32)), .val (.ref q3), .val (.long (((8 : Int64) * (z_q1.toInt64)) - (0 : Int64))), .second, .val (.long (0 : Int64)), .second, .val (.int (8 : Int32)), .val (.int (0 : Int32)), .val (.int (8 : Int32)), .unset, .unset] [(.int (own_f9 (8 : Int32) (8 : Int32)))])
  rw [(by decide : own_f9 (8 : Int32) (8 : Int32) = (8 : Int32))]
  show own_Fin _ _ _ _ T11 (mkF m 71 #[.val (.ref q1), .val (.int (8 : Int32)), .val (.ref q3), .val (.long (((8 : Int64) * (z_q1.toInt64)) - (0 : Int64))), .second, .val (.long (0 : Int64)), .second, .val (.int (8 : Int32)), .val (.int (0 : Int32)), .val (.int (8 : Int32)), .unset, .unset] [(.int (8 : Int32))])
  refine own_istore X11 hx (hb hby d7_71) (pc' := 73) rfl (Ls' := #[.val (.ref q1), .val (.int (8 : Int32)), .val (.ref q3), .val (.long (((8 : Int64) * (z_q1.toInt64)) - (0 : Int64))), .second, .val (.long (0 : Int64)), .second, .val (.int (8 : Int32)), .val (.int (0 : Int32)), .val (.int (8 : Int32)), .val (.int (8 : Int32)), .unset]) rfl ?_
  refine own_aloadN X11 hx (hb hby d7_73) (pc' := 74) rfl rfl rfl ?_
  refine own_getF X11 hx hZ hown (hw _ (List.mem_of_getElem? (i := 11) rfl)) Via.refl e11' F_bytes_q1 (hb hby d7_74) (pc' := 77) rfl (fun T12 X12 e12 => ?_)
  refine own_iload X12 hx (hb hby d7_77) (pc' := 79) rfl rfl ?_
  obtain ⟨cl13, Ar13, qa13, S13, M13, H13, G13⟩ := id A_w_bytes_q1
  have hin13 : ¬ ((0 : Int32) < 0 ∨ cl13.slots.size ≤ ((0 : Int32)).toNatClampNeg) := inb_of S13 ⟨by decide, hz⟩
  refine own_st ?_ (fun t k => X12.baloadBytes hx (j := (0 : Int32)) (v := (.int w0_w_bytes_q1)) (by rw [e12]; exact Ar13.1) (State.isArrayOf_alike hZ.alike Ar13.2.1) Ar13.2.2 hin13 (Has.at H13 hin13 rfl) (g := (mkF m 79 #[.val (.ref q1), .val (.int (8 : Int32)), .val (.ref q3), .val (.long (((8 : Int64) * (z_q1.toInt64)) - (0 : Int64))), .second, .val (.long (0 : Int64)), .second, .val (.int (8 : Int32)), .val (.int (0 : Int32)), .val (.int (8 : Int32)), .val (.int (8 : Int32)), .unset] [(.int (0 : Int32)), (.ref w_bytes_q1)])) rfl rfl (hb hby d7_79) t k)
  show own_Fin _ _ _ _ T12 (mkF m 80 #[.val (.ref q1), .val (.int (8 : Int32)), .val (.ref q3), .val (.long (((8 : Int64) * (z_q1.toInt64)) - (0 : Int64))), .second, .val (.long (0 : Int64)), .second, .val (.int (8 : Int32)), .val (.int (0 : Int32)), .val (.int (8 : Int32)), .val (.int (8 : Int32)), .unset] [(.int w0_w_bytes_q1)])
  refine own_sipush X12 hx (hb hby d7_80) (pc' := 83) rfl (v := (255 : Int32)) rfl ?_
  refine own_iand X12 hx (hb hby d7_83) (pc' := 84) rfl ?_
  refine own_iload X12 hx (hb hby d7_84) (pc' := 86) rfl rfl ?_
  refine own_iload X12 hx (hb hby d7_86) (pc' := 88) rfl rfl ?_
  refine own_isub X12 hx (hb hby d7_88) (pc' := 89) rfl ?_
  show own_Fin _ _ _ _ T12 (mkF m 89 #[.val (.ref q1), .val (.int (8 : Int32)), .val (.ref q3), .val (.long (((8 : Int64) * (z_q1.toInt64)) - (0 : Int64))), .second, .val (.long (0 : Int64)), .second, .val (.int (8 : Int32)), .val (.int (0 : Int32)), .val (.int (8 : Int32)), .val (.int (8 : Int32)), .unset] [(.int (0 : Int32)), (.int (w0_w_bytes_q1 &&& (255 : Int32)))])
  refine own_iushr X12 hx (hb hby d7_89) (pc' := 90) rfl ?_
  refine own_iconst X12 hx (hb hby d7_90) (pc' := 91) rfl (v := (1 : Int32)) rfl ?_
  refine own_iload X12 hx (hb hby d7_91) (pc' := 93) rfl rfl ?_
  refine own_ishl X12 hx (hb hby d7_93) (pc' := 94) rfl ?_
  show own_Fin _ _ _ _ T12 (mkF m 94 #[.val (.ref q1), .val (.int (8 : Int32)), .val (.ref q3), .val (.long (((8 : Int64) * (z_q1.toInt64)) - (0 : Int64))), .second, .val (.long (0 : Int64)), .second, .val (.int (8 : Int32)), .val (.int (0 : Int32)), .val (.int (8 : Int32)), .val (.int (8 : Int32)), .unset] [(.int (256 : Int32)), (.int (own_ush32 (w0_w_bytes_q1 &&& (255 : Int32)) (0 : Int32)))])
  refine own_iconst X12 hx (hb hby d7_94) (pc' := 95) rfl (v := (1 : Int32)) rfl ?_
  refine own_isub X12 hx (hb hby d7_95) (pc' := 96) rfl ?_
  show own_Fin _ _ _ _ T12 (mkF m 96 #[.val (.ref q1), .val (.int (8 : Int32)), .val (.ref q3), .val (.long (((8 : Int64) * (z_q1.toInt64)) - (0 : Int64))), .second, .val (.long (0 : Int64)), .second, .val (.int (8 : Int32)), .val (.int (0 : Int32)), .val (.int (8 : Int32)), .val (.int (8 : Int32)), .unset] [(.int (255 : Int32)), (.int (own_ush32 (w0_w_bytes_q1 &&& (255 : Int32)) (0 : Int32)))])
  refine own_iand X12 hx (hb hby d7_96) (pc' := 97) rfl ?_
  refine own_istore X12 hx (hb hby d7_97) (pc' := 99) rfl (Ls' := #[.val (.ref q1), .val (.int (8 : Int32)), .val (.ref q3), .val (.long (((8 : Int64) * (z_q1.toInt64)) - (0 : Int64))), .second, .val (.long (0 : Int64)), .second, .val (.int (8 : Int32)), .val (.int (0 : Int32)), .val (.int (8 : Int32)), .val (.int (8 : Int32)), .val (.int ((own_ush32 (w0_w_bytes_q1 &&& (255 : Int32)) (0 : Int32)) &&& (255 : Int32)))]) rfl ?_
  refine own_lload X12 hx (hb hby d7_99) (pc' := 101) rfl rfl ?_
  refine own_iload X12 hx (hb hby d7_101) (pc' := 103) rfl rfl ?_
  refine own_lshl X12 hx (hb hby d7_103) (pc' := 104) rfl ?_
  show own_Fin _ _ _ _ T12 (mkF m 104 #[.val (.ref q1), .val (.int (8 : Int32)), .val (.ref q3), .val (.long (((8 : Int64) * (z_q1.toInt64)) - (0 : Int64))), .second, .val (.long (0 : Int64)), .second, .val (.int (8 : Int32)), .val (.int (0 : Int32)), .val (.int (8 : Int32)), .val (.int (8 : Int32)), .val (.int ((own_ush32 (w0_w_bytes_q1 &&& (255 : Int32)) (0 : Int32)) &&& (255 : Int32)))] [(.long (0 : Int64))])
  refine own_iload X12 hx (hb hby d7_104) (pc' := 106) rfl rfl ?_
  refine own_i2l X12 hx (hb hby d7_106) (pc' := 107) rfl ?_
  refine own_lor X12 hx (hb hby d7_107) (pc' := 108) rfl ?_
  refine own_lstore X12 hx (hb hby d7_108) (pc' := 110) rfl (Ls' := #[.val (.ref q1), .val (.int (8 : Int32)), .val (.ref q3), .val (.long (((8 : Int64) * (z_q1.toInt64)) - (0 : Int64))), .second, .val (.long ((0 : Int64) ||| (((own_ush32 (w0_w_bytes_q1 &&& (255 : Int32)) (0 : Int32)) &&& (255 : Int32)).toInt64))), .second, .val (.int (8 : Int32)), .val (.int (0 : Int32)), .val (.int (8 : Int32)), .val (.int (8 : Int32)), .val (.int ((own_ush32 (w0_w_bytes_q1 &&& (255 : Int32)) (0 : Int32)) &&& (255 : Int32)))]) rfl ?_
  refine own_aloadN X12 hx (hb hby d7_110) (pc' := 111) rfl rfl rfl ?_
  refine own_dup X12 hx (hb hby d7_111) (pc' := 112) rfl rfl ?_
  refine own_getF X12 hx hZ hown (hw _ (List.mem_of_getElem? (i := 18) rfl)) Via.refl e12 F_position_q1 (hb hby d7_112) (pc' := 115) rfl (fun T14 X14 e14 => ?_)
  refine own_iload X14 hx (hb hby d7_115) (pc' := 117) rfl rfl ?_
  refine own_i2l X14 hx (hb hby d7_117) (pc' := 118) rfl ?_
  show own_Fin _ _ _ _ T14 (mkF m 118 #[.val (.ref q1), .val (.int (8 : Int32)), .val (.ref q3), .val (.long (((8 : Int64) * (z_q1.toInt64)) - (0 : Int64))), .second, .val (.long ((0 : Int64) ||| (((own_ush32 (w0_w_bytes_q1 &&& (255 : Int32)) (0 : Int32)) &&& (255 : Int32)).toInt64))), .second, .val (.int (8 : Int32)), .val (.int (0 : Int32)), .val (.int (8 : Int32)), .val (.int (8 : Int32)), .val (.int ((own_ush32 (w0_w_bytes_q1 &&& (255 : Int32)) (0 : Int32)) &&& (255 : Int32)))] [(.long (8 : Int64)), (.long (0 : Int64)), (.ref q1)])
  refine own_ladd X14 hx (hb hby d7_118) (pc' := 119) rfl ?_
  show own_Fin _ _ _ _ T14 (mkF m 119 #[.val (.ref q1), .val (.int (8 : Int32)), .val (.ref q3), .val (.long (((8 : Int64) * (z_q1.toInt64)) - (0 : Int64))), .second, .val (.long ((0 : Int64) ||| (((own_ush32 (w0_w_bytes_q1 &&& (255 : Int32)) (0 : Int32)) &&& (255 : Int32)).toInt64))), .second, .val (.int (8 : Int32)), .val (.int (0 : Int32)), .val (.int (8 : Int32)), .val (.int (8 : Int32)), .val (.int ((own_ush32 (w0_w_bytes_q1 &&& (255 : Int32)) (0 : Int32)) &&& (255 : Int32)))] [(.long (8 : Int64)), (.ref q1)])
  obtain ⟨T15, h15, X15, e15, W15, st15⟩ := putF X14 hx hZ hown (host := "") (Or.inl (hw _ (List.mem_of_getElem? (i := 18) rfl))) Via.refl e14 F_position_q1 E_q1 (Or.inl (hw _ (List.mem_of_getElem? (i := 19) rfl))) (hw _ (List.mem_of_getElem? (i := 3) rfl)) (ty := .long) (by decide) rfl rfl (g := (mkF m 119 #[.val (.ref q1), .val (.int (8 : Int32)), .val (.ref q3), .val (.long (((8 : Int64) * (z_q1.toInt64)) - (0 : Int64))), .second, .val (.long ((0 : Int64) ||| (((own_ush32 (w0_w_bytes_q1 &&& (255 : Int32)) (0 : Int32)) &&& (255 : Int32)).toInt64))), .second, .val (.int (8 : Int32)), .val (.int (0 : Int32)), .val (.int (8 : Int32)), .val (.int (8 : Int32)), .val (.int ((own_ush32 (w0_w_bytes_q1 &&& (255 : Int32)) (0 : Int32)) &&& (255 : Int32)))] [(.long (8 : Int64)), (.ref q1)])) rfl rfl (hb hby d7_119)
  have E_q1_15 : Exa Z h15 q1 "com/example/typewire/typewire/packet/BitInput" := E_q1.wr W15
  have F_q1_bytes_15 : Fld Z h15 q1 "com/example/typewire/typewire/packet/BitInput" "bytes" "[B" (.ref w_bytes_q1) := F_bytes_q1.other W15 (Or.inr (slot_ne (Or.inr (hw _ (List.mem_of_getElem? (i := 12) rfl))) (Or.inl (hw _ (List.mem_of_getElem? (i := 19) rfl))) (by decide) (t := (.array .byte)) (t' := .long) (by decide) (by decide)))
  have F_q1_position_15 : Fld Z h15 q1 "com/example/typewire/typewire/packet/BitInput" "position" "J" (.long (8 : Int64)) := F_position_q1.same W15
  have A_w_bytes_q1_15 : Arv Z h15 w_bytes_q1 kc_w_bytes_q1 .byte z_q1 [(.int w0_w_bytes_q1), (.int w1_w_bytes_q1), (.int w2_w_bytes_q1), (.int w3_w_bytes_q1)] (.int (0 : Int32)) := A_w_bytes_q1.other W15 (Ne.symm ne_q1_w_bytes_q1)
  have N15 := Fr.snoc X15 N11 g_q1
  have sz15 : n0 ≤ h15.size := Nat.le_trans Z0 (Keep.of_wr W15).1
  have K15 : Keep h0 h15 [q1, w_bytes_q1] := K0.wr W15 (Or.inl (List.mem_of_getElem? (i := 0) rfl))
  refine own_st ?_ st15
  show own_Fin _ _ _ _ T15 (mkF m 122 #[.val (.ref q1), .val (.int (8 : Int32)), .val (.ref q3), .val (.long (((8 : Int64) * (z_q1.toInt64)) - (0 : Int64))), .second, .val (.long ((0 : Int64) ||| (((own_ush32 (w0_w_bytes_q1 &&& (255 : Int32)) (0 : Int32)) &&& (255 : Int32)).toInt64))), .second, .val (.int (8 : Int32)), .val (.int (0 : Int32)), .val (.int (8 : Int32)), .val (.int (8 : Int32)), .val (.int ((own_ush32 (w0_w_bytes_q1 &&& (255 : Int32)) (0 : Int32)) &&& (255 : Int32)))] [])
  refine own_iload X15 hx (hb hby d7_122) (pc' := 124) rfl rfl ?_
  refine own_iload X15 hx (hb hby d7_124) (pc' := 126) rfl rfl ?_
  refine own_isub X15 hx (hb hby d7_126) (pc' := 127) rfl ?_
  show own_Fin _ _ _ _ T15 (mkF m 127 #[.val (.ref q1), .val (.int (8 : Int32)), .val (.ref q3), .val (.long (((8 : Int64) * (z_q1.toInt64)) - (0 : Int64))), .second, .val (.long ((0 : Int64) ||| (((own_ush32 (w0_w_bytes_q1 &&& (255 : Int32)) (0 : Int32)) &&& (255 : Int32)).toInt64))), .second, .val (.int (8 : Int32)), .val (.int (0 : Int32)), .val (.int (8 : Int32)), .val (.int (8 : Int32)), .val (.int ((own_ush32 (w0_w_bytes_q1 &&& (255 : Int32)) (0 : Int32)) &&& (255 : Int32)))] [(.int (0 : Int32))])
  refine own_istore X15 hx (hb hby d7_127) (pc' := 129) rfl (Ls' := #[.val (.ref q1), .val (.int (8 : Int32)), .val (.ref q3), .val (.long (((8 : Int64) * (z_q1.toInt64)) - (0 : Int64))), .second, .val (.long ((0 : Int64) ||| (((own_ush32 (w0_w_bytes_q1 &&& (255 : Int32)) (0 : Int32)) &&& (255 : Int32)).toInt64))), .second, .val (.int (0 : Int32)), .val (.int (0 : Int32)), .val (.int (8 : Int32)), .val (.int (8 : Int32)), .val (.int ((own_ush32 (w0_w_bytes_q1 &&& (255 : Int32)) (0 : Int32)) &&& (255 : Int32)))]) rfl ?_
  refine own_goto X15 hx (hb hby d7_129) (pc' := 34) (by decide) (by decide) ?_
  refine own_iload X15 hx (hb hby d7_34) (pc' := 36) rfl rfl ?_
  refine own_ifYes X15 hx (hb hby d7_36) ((if0 _ _).trans (flt (by decide : ¬ ((0 : Int32) < (0 : Int32)))).2.2.2) (pc' := 132) (by decide) (by decide) ?_
  refine own_lload X15 hx (hb hby d7_132) (pc' := 134) rfl rfl ?_
  refine own_retJ X15 hx hret hlk (hb hby d7_134) (by decide) (by decide) ?_
  show own_Q7s1 Z q1 q3 w_bytes_q1 z_q1 kc_w_bytes_q1 w0_w_bytes_q1 w1_w_bytes_q1 w2_w_bytes_q1 w3_w_bytes_q1 h0 n0 _ T15.heap _
  rw [e15]
  exact ⟨(congrArg some (congrArg Value.long (show ((0 : Int64) ||| (((own_ush32 (w0_w_bytes_q1 &&& (255 : Int32)) (0 : Int32)) &&& (255 : Int32)).toInt64)) = (own_f7s1 z_q1 w0_w_bytes_q1 w1_w_bytes_q1 w2_w_bytes_q1 w3_w_bytes_q1) from by rw [own_f7s1]))), N15, K15, E_q1_15, F_q1_bytes_15, F_q1_position_15, A_w_bytes_q1_15⟩
theorem ef_7s1 (m : MethodId) (q1 : Addr) (q3 : Addr) : entryFrame m #[(.ref q1), (.int (8 : Int32)), (.ref q3)] 12 = mkF m 0 #[.val (.ref q1), .val (.int (8 : Int32)), .val (.ref q3), .unset, .unset, .unset, .unset, .unset, .unset, .unset, .unset, .unset] [] := by first | (simp [entryFrame, mkF, argsToLocals, Value.category]; done) | rfl
set_option maxRecDepth 65536 in
set_option maxHeartbeats 40000000 in
theorem rm7s1 (l : Launch) (Z : State) (a0 : Array Value) (hw : ∀ d ∈ tables_1, d.before a0 Z = true) (ws : List Jvm.Cond) (q1 : Addr) (q3 : Addr) (w_bytes_q1 : Addr) (z_q1 : Int32) (kc_w_bytes_q1 : ClassId) (w0_w_bytes_q1 : Int32) (w1_w_bytes_q1 : Int32) (w2_w_bytes_q1 : Int32) (w3_w_bytes_q1 : Int32) (h0 : Heap) (n0 : Nat) (Z0 : n0 ≤ h0.size) (E_q1 : Exa Z h0 q1 "com/example/typewire/typewire/packet/BitInput") (g_q1 : n0 ≤ q1) (F_bytes_q1 : Fld Z h0 q1 "com/example/typewire/typewire/packet/BitInput" "bytes" "[B" (.ref w_bytes_q1)) (F_position_q1 : Fld Z h0 q1 "com/example/typewire/typewire/packet/BitInput" "position" "J" (.long (0 : Int64))) (A_w_bytes_q1 : Arv Z h0 w_bytes_q1 kc_w_bytes_q1 .byte z_q1 [(.int w0_w_bytes_q1), (.int w1_w_bytes_q1), (.int w2_w_bytes_q1), (.int w3_w_bytes_q1)] (.int (0 : Int32))) (g_w_bytes_q1 : n0 ≤ w_bytes_q1) (ne_q1_w_bytes_q1 : q1 ≠ w_bytes_q1) (hz : (0 : Int32) < z_q1) (hc9 : ¬ ((((8 : Int64) * (z_q1.toInt64)) - (0 : Int64)) < (8 : Int64))) :
    MetFree l (⟨"com/example/typewire/typewire/packet/BitInput", "readBits", "(ILjava/lang/String;)J"⟩ : MethodName) (head1 (Jvm.Cond.code (⟨"com/example/typewire/typewire/packet/BitInput", "readBits", "(ILjava/lang/String;)J"⟩ : MethodName) prog_12_method_3_code 12 (some .long) :: ws) ({ frames := 1, cells := 0, slots := 0, locals := 13 } : Room)) (fun a U => a = #[(.ref q1), (.int (8 : Int32)), (.ref q3)] ∧ Z.Warmed39 U.vm ∧ U.heap = h0) (fun _ _ _ _ _ => True) (fun _ U o U' => ∃ v L, o = .returned v ∧ (own_Q7s1 Z q1 q3 w_bytes_q1 z_q1 kc_w_bytes_q1 w0_w_bytes_q1 w1_w_bytes_q1 w2_w_bytes_q1 w3_w_bytes_q1 h0 n0) v U'.heap L ∧ FrameEnd U o U' L ({ frames := 1, cells := 0, slots := 0, locals := 13 } : Room).cells ({ frames := 1, cells := 0, slots := 0, locals := 13 } : Room).slots) := by
  refine MetFree.of_bodySF (plainFor_of_name pn_7) hisR ?_
  intro p e s m args below meth c s₁ Bd hml0 hP hK
  obtain ⟨rfl, hZ, hh⟩ := hP
  have hown : s.vm.findClass "com/example/typewire/typewire/packet/BitInput" = some m.cls := findClass_of_methodNamed Bd.named
  have hnm := (name_of_methodNamed Bd.named Bd.method).1
  have X0 : Stand p l e ({ frames := 1, cells := 0, slots := 0, locals := 13 } : Room) s m #[(.ref q1), (.int (8 : Int32)), (.ref q3)] below meth c s₁ [] 0 0 := Stand.of_body Bd
  have e0 : s₁.heap = h0 := by rw [← hh, Bd.state]; rfl
  have H := sg7s1_0 l hw Bd.exec hZ Bd.bytes hml0 hown hnm Bd.returns Bd.notSynchronized q1 q3 w_bytes_q1 z_q1 kc_w_bytes_q1 w0_w_bytes_q1 w1_w_bytes_q1 w2_w_bytes_q1 w3_w_bytes_q1 Z0 X0 (Fr.nil n0) e0 E_q1 g_q1 F_bytes_q1 F_position_q1 A_w_bytes_q1 g_w_bytes_q1 ne_q1_w_bytes_q1 hz hc9
  obtain ⟨t, h1, h2, o, h3, h4⟩ := H
  exact ⟨t, o, castTop (ef_7s1 m q1 q3) h1, h2, h3, h4⟩
def own_f7s2 (z_q1 : Int32) (w0_w_bytes_q1 : Int32) (w1_w_bytes_q1 : Int32) (w2_w_bytes_q1 : Int32) (w3_w_bytes_q1 : Int32) : Int64 :=
  ((((0 : Int64) ||| (((own_ush32 (w0_w_bytes_q1 &&& (255 : Int32)) (0 : Int32)) &&& (255 : Int32)).toInt64)) <<< ((8 : Int32) &&& 63).toInt64) ||| (((own_ush32 (w1_w_bytes_q1 &&& (255 : Int32)) (0 : Int32)) &&& (255 : Int32)).toInt64))
def own_Q7s2 (Z : State) (q1 : Addr) (q3 : Addr) (w_bytes_q1 : Addr) (z_q1 : Int32) (kc_w_bytes_q1 : ClassId) (w0_w_bytes_q1 : Int32) (w1_w_bytes_q1 : Int32) (w2_w_bytes_q1 : Int32) (w3_w_bytes_q1 : Int32) (h0 : Heap) (n0 : Nat) (v : Option Value) (h : Heap) (L : List Loc) : Prop := v = some (.long (own_f7s2 z_q1 w0_w_bytes_q1 w1_w_bytes_q1 w2_w_bytes_q1 w3_w_bytes_q1)) ∧ Fr n0 L ∧ Keep h0 h [q1, w_bytes_q1] ∧ Exa Z h q1 "com/example/typewire/typewire/packet/BitInput" ∧ Fld Z h q1 "com/example/typewire/typewire/packet/BitInput" "bytes" "[B" (.ref w_bytes_q1) ∧ Fld Z h q1 "com/example/typewire/typewire/packet/BitInput" "position" "J" (.long (16 : Int64)) ∧ Arv Z h w_bytes_q1 kc_w_bytes_q1 .byte z_q1 [(.int w0_w_bytes_q1), (.int w1_w_bytes_q1), (.int w2_w_bytes_q1), (.int w3_w_bytes_q1)] (.int (0 : Int32))
set_option maxRecDepth 65536 in
set_option maxHeartbeats 40000000 in
theorem sg7s2_0 {p : Program} (l : Launch) {e : Env} {s : State} {m : MethodId} {args : Array Value} {below : List Frame} {meth : Method} {c : Code} {Z : State} {a0 : Array Value} (hw : ∀ d ∈ tables_1, d.before a0 Z = true) (hx : p.tables.exec = Jvm.exec) (hZ : Z.Warmed39 s.vm) (hby : c.code = prog_12_method_3_code) (hml : c.maxLocals = 12) (hown : s.vm.findClass "com/example/typewire/typewire/packet/BitInput" = some m.cls) (hnm : meth.name = "readBits") (hret : meth.sig.returnType = (some .long)) (hlk : meth.locks = false) (q1 : Addr) (q3 : Addr) (w_bytes_q1 : Addr) (z_q1 : Int32) (kc_w_bytes_q1 : ClassId) (w0_w_bytes_q1 : Int32) (w1_w_bytes_q1 : Int32) (w2_w_bytes_q1 : Int32) (w3_w_bytes_q1 : Int32) {h0 : Heap} {n0 : Nat} (Z0 : n0 ≤ h0.size) {T0 : State} {L0 : List Loc} (X0 : Stand p l e ({ frames := 1, cells := 0, slots := 0, locals := 13 } : Room) s m args below meth c T0 L0 0 0) (N0 : Fr n0 L0) (e0 : T0.heap = h0) (E_q1 : Exa Z h0 q1 "com/example/typewire/typewire/packet/BitInput") (g_q1 : n0 ≤ q1) (F_bytes_q1 : Fld Z h0 q1 "com/example/typewire/typewire/packet/BitInput" "bytes" "[B" (.ref w_bytes_q1)) (F_position_q1 : Fld Z h0 q1 "com/example/typewire/typewire/packet/BitInput" "position" "J" (.long (0 : Int64))) (A_w_bytes_q1 : Arv Z h0 w_bytes_q1 kc_w_bytes_q1 .byte z_q1 [(.int w0_w_bytes_q1), (.int w1_w_bytes_q1), (.int w2_w_bytes_q1), (.int w3_w_bytes_q1)] (.int (0 : Int32))) (g_w_bytes_q1 : n0 ≤ w_bytes_q1) (ne_q1_w_bytes_q1 : q1 ≠ w_bytes_q1) (hz : (1 : Int32) < z_q1) (hc9 : ¬ ((((8 : Int64) * (z_q1.toInt64)) - (0 : Int64)) < (16 : Int64))) :
    own_Fin p.tables e below (own_End below s (own_Q7s2 Z q1 q3 w_bytes_q1 z_q1 kc_w_bytes_q1 w0_w_bytes_q1 w1_w_bytes_q1 w2_w_bytes_q1 w3_w_bytes_q1 h0 n0) 0 0) T0 (mkF m 0 #[.val (.ref q1), .val (.int (16 : Int32)), .val (.ref q3), .unset, .unset, .unset, .unset, .unset, .unset, .unset, .unset, .unset] []) := by
  have K0 := Keep.refl h0 [q1, w_bytes_q1]
  refine own_aloadN X0 hx (hb hby d7_0) (pc' := 1) rfl rfl rfl ?_
  obtain ⟨cq16, q16, q16'⟩ := E_q1.cell
  obtain ⟨_, _, ⟨T16, L16, k16, n16⟩, -, X16, ⟨Lc16, hQ16, l16, y16, z16⟩, st16⟩ := X0.privateBack hx (y := (⟨"com/example/typewire/typewire/packet/BitInput", "bitsLeft", "()J"⟩ : MethodName)) hown (mvT hZ (hw _ (List.mem_of_getElem? (i := 48) rfl))) (mvT hZ (hw _ (List.mem_of_getElem? (i := 49) rfl))) (own_selP hZ (hw _ (List.mem_of_getElem? (i := 49) rfl)) (hw _ (List.mem_of_getElem? (i := 50) rfl)) (hw _ (List.mem_of_getElem? (i := 16) rfl))) (Cond.privateMethod_at (mvP hZ (hw _ (List.mem_of_getElem? (i := 50) rfl)) (args := #[]))) (mvT hZ (hw _ (List.mem_of_getElem? (i := 51) rfl))) (by decide) (backOf (W := 0) (rm8 l Z a0 hw [] q1 w_bytes_q1 (0 : Int64) z_q1 kc_w_bytes_q1 w0_w_bytes_q1 w1_w_bytes_q1 w2_w_bytes_q1 w3_w_bytes_q1 h0 n0 Z0 E_q1 F_bytes_q1 F_position_q1 A_w_bytes_q1) hZ (hw _ (List.mem_of_getElem? (i := 51) rfl)) (hw _ (List.mem_of_getElem? (i := 4) rfl)) (by decide) (by decide)) (g := (mkF m 1 #[.val (.ref q1), .val (.int (16 : Int32)), .val (.ref q3), .unset, .unset, .unset, .unset, .unset, .unset, .unset, .unset, .unset] [(.ref q1)])) rfl (by rw [hml]; rfl) (Steps.refl _) (a := q1) (by rw [e0]; exact q16) q16' (argsL := []) (rest := []) (lenOf pd_0 rfl) rfl (by show 2 * 0 + _ ≤ _; exact Nat.le_of_eq rfl) (hb hby d7_1) (fun _ _ => ⟨rfl, e0, (by decide : 0 + 0 ≤ _), (by decide : 0 + 0 ≤ _)⟩)
  dsimp only [Pt.U, Pt.locs, Pt.cells, Pt.slots] at X16 l16 y16 z16 st16 hQ16
  subst l16 y16 z16
  obtain ⟨rfl, N16q, e16'⟩ := hQ16
  have N16 := Fr.app N0 N16q
  refine own_st ?_ (fun t k => st16.trans k)
  show own_Fin _ _ _ _ T16 (mkF m 4 #[.val (.ref q1), .val (.int (16 : Int32)), .val (.ref q3), .unset, .unset, .unset, .unset, .unset, .unset, .unset, .unset, .unset] [(.long (((8 : Int64) * (z_q1.toInt64)) - (0 : Int64)))])
  refine own_lstoreN X16 hx (hb hby d7_4) (pc' := 5) rfl (Ls' := #[.val (.ref q1), .val (.int (16 : Int32)), .val (.ref q3), .val (.long (((8 : Int64) * (z_q1.toInt64)) - (0 : Int64))), .second, .unset, .unset, .unset, .unset, .unset, .unset, .unset]) rfl ?_
  refine own_lloadN X16 hx (hb hby d7_5) (pc' := 6) rfl rfl ?_
  refine own_iloadN X16 hx (hb hby d7_6) (pc' := 7) rfl rfl ?_
  refine own_i2l X16 hx (hb hby d7_7) (pc' := 8) rfl ?_
  show own_Fin _ _ _ _ T16 (mkF m 8 #[.val (.ref q1), .val (.int (16 : Int32)), .val (.ref q3), .val (.long (((8 : Int64) * (z_q1.toInt64)) - (0 : Int64))), .second, .unset, .unset, .unset, .unset, .unset, .unset, .unset] [(.long (16 : Int64)), (.long (((8 : Int64) * (z_q1.toInt64)) - (0 : Int64)))])
  refine own_lcmp X16 hx (hb hby d7_8) (pc' := 9) rfl ?_
  refine own_ifYes X16 hx (hb hby d7_9) ((if0 _ _).trans (flt (mt own_lc_lt.mp hc9)).2.1) (pc' := 28) (by decide) (by decide) ?_
  refine own_lconst X16 hx (hb hby d7_28) (pc' := 29) rfl (v := (0 : Int64)) rfl ?_
  refine own_lstore X16 hx (hb hby d7_29) (pc' := 31) rfl (Ls' := #[.val (.ref q1), .val (.int (16 : Int32)), .val (.ref q3), .val (.long (((8 : Int64) * (z_q1.toInt64)) - (0 : Int64))), .second, .val (.long (0 : Int64)), .second, .unset, .unset, .unset, .unset, .unset]) rfl ?_
  refine own_iloadN X16 hx (hb hby d7_31) (pc' := 32) rfl rfl ?_
  refine own_istore X16 hx (hb hby d7_32) (pc' := 34) rfl (Ls' := #[.val (.ref q1), .val (.int (16 : Int32)), .val (.ref q3), .val (.long (((8 : Int64) * (z_q1.toInt64)) - (0 : Int64))), .second, .val (.long (0 : Int64)), .second, .val (.int (16 : Int32)), .unset, .unset, .unset, .unset]) rfl ?_
  refine own_iload X16 hx (hb hby d7_34) (pc' := 36) rfl rfl ?_
  refine own_ifNo X16 hx (hb hby d7_36) (pc' := 39) rfl ((if0 _ _).trans (tlt (by decide : (0 : Int32) < (16 : Int32))).2.2.2) ?_
  refine own_aloadN X16 hx (hb hby d7_39) (pc' := 40) rfl rfl rfl ?_
  refine own_getF X16 hx hZ hown (hw _ (List.mem_of_getElem? (i := 18) rfl)) Via.refl e16' F_position_q1 (hb hby d7_40) (pc' := 43) rfl (fun T17 X17 e17 => ?_)
  refine own_ldc2Long X17 hx hZ hown (hw _ (List.mem_of_getElem? (i := 20) rfl)) (hb hby d7_43) (pc' := 46) rfl ?_
  refine own_ldiv X17 hx (hb hby d7_46) (pc' := 47) rfl (by decide) ?_
  show own_Fin _ _ _ _ T17 (mkF m 47 #[.val (.ref q1), .val (.int (16 : Int32)), .val (.ref q3), .val (.long (((8 : Int64) * (z_q1.toInt64)) - (0 : Int64))), .second, .val (.long (0 : Int64)), .second, .val (.int (16 : Int32)), .unset, .unset, .unset, .unset] [(.long (0 : Int64))])
  refine own_l2i X17 hx (hb hby d7_47) (pc' := 48) rfl ?_
  show own_Fin _ _ _ _ T17 (mkF m 48 #[.val (.ref q1), .val (.int (16 : Int32)), .val (.ref q3), .val (.long (((8 : Int64) * (z_q1.toInt64)) - (0 : Int64))), .second, .val (.long (0 : Int64)), .second, .val (.int (16 : Int32)), .unset, .unset, .unset, .unset] [(.int (0 : Int32))])
  refine own_istore X17 hx (hb hby d7_48) (pc' := 50) rfl (Ls' := #[.val (.ref q1), .val (.int (16 : Int32)), .val (.ref q3), .val (.long (((8 : Int64) * (z_q1.toInt64)) - (0 : Int64))), .second, .val (.long (0 : Int64)), .second, .val (.int (16 : Int32)), .val (.int (0 : Int32)), .unset, .unset, .unset]) rfl ?_
  refine own_bipush X17 hx (hb hby d7_50) (pc' := 52) rfl (v := (8 : Int32)) rfl ?_
  refine own_aloadN X17 hx (hb hby d7_52) (pc' := 53) rfl rfl rfl ?_
  refine own_getF X17 hx hZ hown (hw _ (List.mem_of_getElem? (i := 18) rfl)) Via.refl e17 F_position_q1 (hb hby d7_53) (pc' := 56) rfl (fun T18 X18 e18 => ?_)
  refine own_ldc2Long X18 hx hZ hown (hw _ (List.mem_of_getElem? (i := 20) rfl)) (hb hby d7_56) (pc' := 59) rfl ?_
  refine own_lrem X18 hx (hb hby d7_59) (pc' := 60) rfl (by decide) ?_
  show own_Fin _ _ _ _ T18 (mkF m 60 #[.val (.ref q1), .val (.int (16 : Int32)), .val (.ref q3), .val (.long (((8 : Int64) * (z_q1.toInt64)) - (0 : Int64))), .second, .val (.long (0 : Int64)), .second, .val (.int (16 : Int32)), .val (.int (0 : Int32)), .unset, .unset, .unset] [(.long (0 : Int64)), (.int (8 : Int32))])
  refine own_l2i X18 hx (hb hby d7_60) (pc' := 61) rfl ?_
  show own_Fin _ _ _ _ T18 (mkF m 61 #[.val (.ref q1), .val (.int (16 : Int32)), .val (.ref q3), .val (.long (((8 : Int64) * (z_q1.toInt64)) - (0 : Int64))), .second, .val (.long (0 : Int64)), .second, .val (.int (16 : Int32)), .val (.int (0 : Int32)), .unset, .unset, .unset] [(.int (0 : Int32)), (.int (8 : Int32))])
  refine own_isub X18 hx (hb hby d7_61) (pc' := 62) rfl ?_
  show own_Fin _ _ _ _ T18 (mkF m 62 #[.val (.ref q1), .val (.int (16 : Int32)), .val (.ref q3), .val (.long (((8 : Int64) * (z_q1.toInt64)) - (0 : Int64))), .second, .val (.long (0 : Int64)), .second, .val (.int (16 : Int32)), .val (.int (0 : Int32)), .unset, .unset, .unset] [(.int (8 : Int32))])
  refine own_istore X18 hx (hb hby d7_62) (pc' := 64) rfl (Ls' := #[.val (.ref q1), .val (.int (16 : Int32)), .val (.ref q3), .val (.long (((8 : Int64) * (z_q1.toInt64)) - (0 : Int64))), .second, .val (.long (0 : Int64)), .second, .val (.int (16 : Int32)), .val (.int (0 : Int32)), .val (.int (8 : Int32)), .unset, .unset]) rfl ?_
  refine own_iload X18 hx (hb hby d7_64) (pc' := 66) rfl rfl ?_
  refine own_iload X18 hx (hb hby d7_66) (pc' := 68) rfl rfl ?_
  obtain ⟨_, _, ⟨T19, L19, k19, n19⟩, -, X19, ⟨Lc19, hQ19, l19, y19, z19⟩, st19⟩ := Jvm.LawKit.callS X18 hx (y := (⟨"java/lang/Math", "min", "(II)I"⟩ : MethodName)) hown (mvT hZ (hw _ (List.mem_of_getElem? (i := 52) rfl))) (mvT hZ (hw _ (List.mem_of_getElem? (i := 53) rfl))) (mvT hZ (hw _ (List.mem_of_getElem? (i := 54) rfl))) (mvT hZ (hw _ (List.mem_of_getElem? (i := 55) rfl))) (by decide) (backOf (W := 0) (rm9 l Z a0 hw [] (8 : Int32) (16 : Int32) h0 n0 Z0 ) hZ (hw _ (List.mem_of_getElem? (i := 55) rfl)) (hw _ (List.mem_of_getElem? (i := 54) rfl)) (by decide) (by decide)) (g := (mkF m 68 #[.val (.ref q1), .val (.int (16 : Int32)), .val (.ref q3), .val (.long (((8 : Int64) * (z_q1.toInt64)) - (0 : Int64))), .second, .val (.long (0 : Int64)), .second, .val (.int (16 : Int32)), .val (.int (0 : Int32)), .val (.int (8 : Int32)), .unset, .unset] [(.int (16 : Int32)), (.int (8 : Int32))])) rfl (by rw [hml]; rfl) (argsL := [(.int (8 : Int32)), (.int (16 : Int32))]) (rest := []) (lenOf pd_1 rfl) rfl (by show 2 * 0 + _ ≤ _; exact Nat.le_of_eq rfl) (hb hby d7_68) (fun _ _ => ⟨rfl, e18, (by decide : 0 + 0 ≤ _), (by decide : 0 + 0 ≤ _)⟩)
  dsimp only [Pt.U, Pt.locs, Pt.cells, Pt.slots] at X19 l19 y19 z19 st19 hQ19
  subst l19 y19 z19
  obtain ⟨rfl, N19q, e19'⟩ := hQ19
  have N19 := Fr.app N16 N19q
  refine own_st ?_ st19
  show own_Fin _ _ _ _ T19 (mkF m 71 #[.val (.ref q1), .val (.int (16 : Int32)), .val (.ref q3), .val (.long (((8 : Int64) * (z_q1.toInt64)) - (0 : Int64))), .second, .val (.long (0 : Int64)), .second, .val (.int (16 : Int32)), .val (.int (0 : Int32)), .val (.int (8 : Int32)), .unset, .unset] [(.int (own_f9 (8 : Int32) (16 : Int32)))])
  rw [(by decide : own_f9 (8 : Int32) (16 : Int32) = (8 : Int32))]
  show own_Fin _ _ _ _ T19 (mkF m 71 #[.val (.ref q1), .val (.int (16 : Int32)), .val (.ref q3), .val (.long (((8 : Int64) * (z_q1.toInt64)) - (0 : Int64))), .second, .val (.long (0 : Int64)), .second, .val (.int (16 : Int32)), .val (.int (0 : Int32)), .val (.int (8 : Int32)), .unset, .unset] [(.int (8 : Int32))])
  refine own_istore X19 hx (hb hby d7_71) (pc' := 73) rfl (Ls' := #[.val (.ref q1), .val (.int (16 : Int32)), .val (.ref q3), .val (.long (((8 : Int64) * (z_q1.toInt64)) - (0 : Int64))), .second, .val (.long (0 : Int64)), .second, .val (.int (16 : Int32)), .val (.int (0 : Int32)), .val (.int (8 : Int32)), .val (.int (8 : Int32)), .unset]) rfl ?_
  refine own_aloadN X19 hx (hb hby d7_73) (pc' := 74) rfl rfl rfl ?_
  refine own_getF X19 hx hZ hown (hw _ (List.mem_of_getElem? (i := 11) rfl)) Via.refl e19' F_bytes_q1 (hb hby d7_74) (pc' := 77) rfl (fun T20 X20 e20 => ?_)
  refine own_iload X20 hx (hb hby d7_77) (pc' := 79) rfl rfl ?_
  obtain ⟨cl21, Ar21, qa21, S21, M21, H21, G21⟩ := id A_w_bytes_q1
  have hin21 : ¬ ((0 : Int32) < 0 ∨ cl21.slots.size ≤ ((0 : Int32)).toNatClampNeg) := inb_of S21 ⟨by decide, Int32.lt_of_le_of_lt (by decide) hz⟩
  refine own_st ?_ (fun t k => X20.baloadBytes hx (j := (0 : Int32)) (v := (.int w0_w_bytes_q1)) (by rw [e20]; exact Ar21.1) (State.isArrayOf_alike hZ.alike Ar21.2.1) Ar21.2.2 hin21 (Has.at H21 hin21 rfl) (g := (mkF m 79 #[.val (.ref q1), .val (.int (16 : Int32)), .val (.ref q3), .val (.long (((8 : Int64) * (z_q1.toInt64)) - (0 : Int64))), .second, .val (.long (0 : Int64)), .second, .val (.int (16 : Int32)), .val (.int (0 : Int32)), .val (.int (8 : Int32)), .val (.int (8 : Int32)), .unset] [(.int (0 : Int32)), (.ref w_bytes_q1)])) rfl rfl (hb hby d7_79) t k)
  show own_Fin _ _ _ _ T20 (mkF m 80 #[.val (.ref q1), .val (.int (16 : Int32)), .val (.ref q3), .val (.long (((8 : Int64) * (z_q1.toInt64)) - (0 : Int64))), .second, .val (.long (0 : Int64)), .second, .val (.int (16 : Int32)), .val (.int (0 : Int32)), .val (.int (8 : Int32)), .val (.int (8 : Int32)), .unset] [(.int w0_w_bytes_q1)])
  refine own_sipush X20 hx (hb hby d7_80) (pc' := 83) rfl (v := (255 : Int32)) rfl ?_
  refine own_iand X20 hx (hb hby d7_83) (pc' := 84) rfl ?_
  refine own_iload X20 hx (hb hby d7_84) (pc' := 86) rfl rfl ?_
  refine own_iload X20 hx (hb hby d7_86) (pc' := 88) rfl rfl ?_
  refine own_isub X20 hx (hb hby d7_88) (pc' := 89) rfl ?_
  show own_Fin _ _ _ _ T20 (mkF m 89 #[.val (.ref q1), .val (.int (16 : Int32)), .val (.ref q3), .val (.long (((8 : Int64) * (z_q1.toInt64)) - (0 : Int64))), .second, .val (.long (0 : Int64)), .second, .val (.int (16 : Int32)), .val (.int (0 : Int32)), .val (.int (8 : Int32)), .val (.int (8 : Int32)), .unset] [(.int (0 : Int32)), (.int (w0_w_bytes_q1 &&& (255 : Int32)))])
  refine own_iushr X20 hx (hb hby d7_89) (pc' := 90) rfl ?_
  refine own_iconst X20 hx (hb hby d7_90) (pc' := 91) rfl (v := (1 : Int32)) rfl ?_
  refine own_iload X20 hx (hb hby d7_91) (pc' := 93) rfl rfl ?_
  refine own_ishl X20 hx (hb hby d7_93) (pc' := 94) rfl ?_
  show own_Fin _ _ _ _ T20 (mkF m 94 #[.val (.ref q1), .val (.int (16 : Int32)), .val (.ref q3), .val (.long (((8 : Int64) * (z_q1.toInt64)) - (0 : Int64))), .second, .val (.long (0 : Int64)), .second, .val (.int (16 : Int32)), .val (.int (0 : Int32)), .val (.int (8 : Int32)), .val (.int (8 : Int32)), .unset] [(.int (256 : Int32)), (.int (own_ush32 (w0_w_bytes_q1 &&& (255 : Int32)) (0 : Int32)))])
  refine own_iconst X20 hx (hb hby d7_94) (pc' := 95) rfl (v := (1 : Int32)) rfl ?_
  refine own_isub X20 hx (hb hby d7_95) (pc' := 96) rfl ?_
  show own_Fin _ _ _ _ T20 (mkF m 96 #[.val (.ref q1), .val (.int (16 : Int32)), .val (.ref q3), .val (.long (((8 : Int64) * (z_q1.toInt64)) - (0 : Int64))), .second, .val (.long (0 : Int64)), .second, .val (.int (16 : Int32)), .val (.int (0 : Int32)), .val (.int (8 : Int32)), .val (.int (8 : Int32)), .unset] [(.int (255 : Int32)), (.int (own_ush32 (w0_w_bytes_q1 &&& (255 : Int32)) (0 : Int32)))])
  refine own_iand X20 hx (hb hby d7_96) (pc' := 97) rfl ?_
  refine own_istore X20 hx (hb hby d7_97) (pc' := 99) rfl (Ls' := #[.val (.ref q1), .val (.int (16 : Int32)), .val (.ref q3), .val (.long (((8 : Int64) * (z_q1.toInt64)) - (0 : Int64))), .second, .val (.long (0 : Int64)), .second, .val (.int (16 : Int32)), .val (.int (0 : Int32)), .val (.int (8 : Int32)), .val (.int (8 : Int32)), .val (.int ((own_ush32 (w0_w_bytes_q1 &&& (255 : Int32)) (0 : Int32)) &&& (255 : Int32)))]) rfl ?_
  refine own_lload X20 hx (hb hby d7_99) (pc' := 101) rfl rfl ?_
  refine own_iload X20 hx (hb hby d7_101) (pc' := 103) rfl rfl ?_
  refine own_lshl X20 hx (hb hby d7_103) (pc' := 104) rfl ?_
  show own_Fin _ _ _ _ T20 (mkF m 104 #[.val (.ref q1), .val (.int (16 : Int32)), .val (.ref q3), .val (.long (((8 : Int64) * (z_q1.toInt64)) - (0 : Int64))), .second, .val (.long (0 : Int64)), .second, .val (.int (16 : Int32)), .val (.int (0 : Int32)), .val (.int (8 : Int32)), .val (.int (8 : Int32)), .val (.int ((own_ush32 (w0_w_bytes_q1 &&& (255 : Int32)) (0 : Int32)) &&& (255 : Int32)))] [(.long (0 : Int64))])
  refine own_iload X20 hx (hb hby d7_104) (pc' := 106) rfl rfl ?_
  refine own_i2l X20 hx (hb hby d7_106) (pc' := 107) rfl ?_
  refine own_lor X20 hx (hb hby d7_107) (pc' := 108) rfl ?_
  refine own_lstore X20 hx (hb hby d7_108) (pc' := 110) rfl (Ls' := #[.val (.ref q1), .val (.int (16 : Int32)), .val (.ref q3), .val (.long (((8 : Int64) * (z_q1.toInt64)) - (0 : Int64))), .second, .val (.long ((0 : Int64) ||| (((own_ush32 (w0_w_bytes_q1 &&& (255 : Int32)) (0 : Int32)) &&& (255 : Int32)).toInt64))), .second, .val (.int (16 : Int32)), .val (.int (0 : Int32)), .val (.int (8 : Int32)), .val (.int (8 : Int32)), .val (.int ((own_ush32 (w0_w_bytes_q1 &&& (255 : Int32)) (0 : Int32)) &&& (255 : Int32)))]) rfl ?_
  refine own_aloadN X20 hx (hb hby d7_110) (pc' := 111) rfl rfl rfl ?_
  refine own_dup X20 hx (hb hby d7_111) (pc' := 112) rfl rfl ?_
  refine own_getF X20 hx hZ hown (hw _ (List.mem_of_getElem? (i := 18) rfl)) Via.refl e20 F_position_q1 (hb hby d7_112) (pc' := 115) rfl (fun T22 X22 e22 => ?_)
  refine own_iload X22 hx (hb hby d7_115) (pc' := 117) rfl rfl ?_
  refine own_i2l X22 hx (hb hby d7_117) (pc' := 118) rfl ?_
  show own_Fin _ _ _ _ T22 (mkF m 118 #[.val (.ref q1), .val (.int (16 : Int32)), .val (.ref q3), .val (.long (((8 : Int64) * (z_q1.toInt64)) - (0 : Int64))), .second, .val (.long ((0 : Int64) ||| (((own_ush32 (w0_w_bytes_q1 &&& (255 : Int32)) (0 : Int32)) &&& (255 : Int32)).toInt64))), .second, .val (.int (16 : Int32)), .val (.int (0 : Int32)), .val (.int (8 : Int32)), .val (.int (8 : Int32)), .val (.int ((own_ush32 (w0_w_bytes_q1 &&& (255 : Int32)) (0 : Int32)) &&& (255 : Int32)))] [(.long (8 : Int64)), (.long (0 : Int64)), (.ref q1)])
  refine own_ladd X22 hx (hb hby d7_118) (pc' := 119) rfl ?_
  show own_Fin _ _ _ _ T22 (mkF m 119 #[.val (.ref q1), .val (.int (16 : Int32)), .val (.ref q3), .val (.long (((8 : Int64) * (z_q1.toInt64)) - (0 : Int64))), .second, .val (.long ((0 : Int64) ||| (((own_ush32 (w0_w_bytes_q1 &&& (255 : Int32)) (0 : Int32)) &&& (255 : Int32)).toInt64))), .second, .val (.int (16 : Int32)), .val (.int (0 : Int32)), .val (.int (8 : Int32)), .val (.int (8 : Int32)), .val (.int ((own_ush32 (w0_w_bytes_q1 &&& (255 : Int32)) (0 : Int32)) &&& (255 : Int32)))] [(.long (8 : Int64)), (.ref q1)])
  obtain ⟨T23, h23, X23, e23, W23, st23⟩ := putF X22 hx hZ hown (host := "") (Or.inl (hw _ (List.mem_of_getElem? (i := 18) rfl))) Via.refl e22 F_position_q1 E_q1 (Or.inl (hw _ (List.mem_of_getElem? (i := 19) rfl))) (hw _ (List.mem_of_getElem? (i := 3) rfl)) (ty := .long) (by decide) rfl rfl (g := (mkF m 119 #[.val (.ref q1), .val (.int (16 : Int32)), .val (.ref q3), .val (.long (((8 : Int64) * (z_q1.toInt64)) - (0 : Int64))), .second, .val (.long ((0 : Int64) ||| (((own_ush32 (w0_w_bytes_q1 &&& (255 : Int32)) (0 : Int32)) &&& (255 : Int32)).toInt64))), .second, .val (.int (16 : Int32)), .val (.int (0 : Int32)), .val (.int (8 : Int32)), .val (.int (8 : Int32)), .val (.int ((own_ush32 (w0_w_bytes_q1 &&& (255 : Int32)) (0 : Int32)) &&& (255 : Int32)))] [(.long (8 : Int64)), (.ref q1)])) rfl rfl (hb hby d7_119)
  have E_q1_23 : Exa Z h23 q1 "com/example/typewire/typewire/packet/BitInput" := E_q1.wr W23
  have F_q1_bytes_23 : Fld Z h23 q1 "com/example/typewire/typewire/packet/BitInput" "bytes" "[B" (.ref w_bytes_q1) := F_bytes_q1.other W23 (Or.inr (slot_ne (Or.inr (hw _ (List.mem_of_getElem? (i := 12) rfl))) (Or.inl (hw _ (List.mem_of_getElem? (i := 19) rfl))) (by decide) (t := (.array .byte)) (t' := .long) (by decide) (by decide)))
  have F_q1_position_23 : Fld Z h23 q1 "com/example/typewire/typewire/packet/BitInput" "position" "J" (.long (8 : Int64)) := F_position_q1.same W23
  have A_w_bytes_q1_23 : Arv Z h23 w_bytes_q1 kc_w_bytes_q1 .byte z_q1 [(.int w0_w_bytes_q1), (.int w1_w_bytes_q1), (.int w2_w_bytes_q1), (.int w3_w_bytes_q1)] (.int (0 : Int32)) := A_w_bytes_q1.other W23 (Ne.symm ne_q1_w_bytes_q1)
  have N23 := Fr.snoc X23 N19 g_q1
  have sz23 : n0 ≤ h23.size := Nat.le_trans Z0 (Keep.of_wr W23).1
  have K23 : Keep h0 h23 [q1, w_bytes_q1] := K0.wr W23 (Or.inl (List.mem_of_getElem? (i := 0) rfl))
  refine own_st ?_ st23
  show own_Fin _ _ _ _ T23 (mkF m 122 #[.val (.ref q1), .val (.int (16 : Int32)), .val (.ref q3), .val (.long (((8 : Int64) * (z_q1.toInt64)) - (0 : Int64))), .second, .val (.long ((0 : Int64) ||| (((own_ush32 (w0_w_bytes_q1 &&& (255 : Int32)) (0 : Int32)) &&& (255 : Int32)).toInt64))), .second, .val (.int (16 : Int32)), .val (.int (0 : Int32)), .val (.int (8 : Int32)), .val (.int (8 : Int32)), .val (.int ((own_ush32 (w0_w_bytes_q1 &&& (255 : Int32)) (0 : Int32)) &&& (255 : Int32)))] [])
  refine own_iload X23 hx (hb hby d7_122) (pc' := 124) rfl rfl ?_
  refine own_iload X23 hx (hb hby d7_124) (pc' := 126) rfl rfl ?_
  refine own_isub X23 hx (hb hby d7_126) (pc' := 127) rfl ?_
  show own_Fin _ _ _ _ T23 (mkF m 127 #[.val (.ref q1), .val (.int (16 : Int32)), .val (.ref q3), .val (.long (((8 : Int64) * (z_q1.toInt64)) - (0 : Int64))), .second, .val (.long ((0 : Int64) ||| (((own_ush32 (w0_w_bytes_q1 &&& (255 : Int32)) (0 : Int32)) &&& (255 : Int32)).toInt64))), .second, .val (.int (16 : Int32)), .val (.int (0 : Int32)), .val (.int (8 : Int32)), .val (.int (8 : Int32)), .val (.int ((own_ush32 (w0_w_bytes_q1 &&& (255 : Int32)) (0 : Int32)) &&& (255 : Int32)))] [(.int (8 : Int32))])
  refine own_istore X23 hx (hb hby d7_127) (pc' := 129) rfl (Ls' := #[.val (.ref q1), .val (.int (16 : Int32)), .val (.ref q3), .val (.long (((8 : Int64) * (z_q1.toInt64)) - (0 : Int64))), .second, .val (.long ((0 : Int64) ||| (((own_ush32 (w0_w_bytes_q1 &&& (255 : Int32)) (0 : Int32)) &&& (255 : Int32)).toInt64))), .second, .val (.int (8 : Int32)), .val (.int (0 : Int32)), .val (.int (8 : Int32)), .val (.int (8 : Int32)), .val (.int ((own_ush32 (w0_w_bytes_q1 &&& (255 : Int32)) (0 : Int32)) &&& (255 : Int32)))]) rfl ?_
  refine own_goto X23 hx (hb hby d7_129) (pc' := 34) (by decide) (by decide) ?_
  refine own_iload X23 hx (hb hby d7_34) (pc' := 36) rfl rfl ?_
  refine own_ifNo X23 hx (hb hby d7_36) (pc' := 39) rfl ((if0 _ _).trans (tlt (by decide : (0 : Int32) < (8 : Int32))).2.2.2) ?_
  refine own_aloadN X23 hx (hb hby d7_39) (pc' := 40) rfl rfl rfl ?_
  refine own_getF X23 hx hZ hown (hw _ (List.mem_of_getElem? (i := 18) rfl)) Via.refl e23 F_q1_position_23 (hb hby d7_40) (pc' := 43) rfl (fun T24 X24 e24 => ?_)
  refine own_ldc2Long X24 hx hZ hown (hw _ (List.mem_of_getElem? (i := 20) rfl)) (hb hby d7_43) (pc' := 46) rfl ?_
  refine own_ldiv X24 hx (hb hby d7_46) (pc' := 47) rfl (by decide) ?_
  show own_Fin _ _ _ _ T24 (mkF m 47 #[.val (.ref q1), .val (.int (16 : Int32)), .val (.ref q3), .val (.long (((8 : Int64) * (z_q1.toInt64)) - (0 : Int64))), .second, .val (.long ((0 : Int64) ||| (((own_ush32 (w0_w_bytes_q1 &&& (255 : Int32)) (0 : Int32)) &&& (255 : Int32)).toInt64))), .second, .val (.int (8 : Int32)), .val (.int (0 : Int32)), .val (.int (8 : Int32)), .val (.int (8 : Int32)), .val (.int ((own_ush32 (w0_w_bytes_q1 &&& (255 : Int32)) (0 : Int32)) &&& (255 : Int32)))] [(.long (1 : Int64))])
  refine own_l2i X24 hx (hb hby d7_47) (pc' := 48) rfl ?_
  show own_Fin _ _ _ _ T24 (mkF m 48 #[.val (.ref q1), .val (.int (16 : Int32)), .val (.ref q3), .val (.long (((8 : Int64) * (z_q1.toInt64)) - (0 : Int64))), .second, .val (.long ((0 : Int64) ||| (((own_ush32 (w0_w_bytes_q1 &&& (255 : Int32)) (0 : Int32)) &&& (255 : Int32)).toInt64))), .second, .val (.int (8 : Int32)), .val (.int (0 : Int32)), .val (.int (8 : Int32)), .val (.int (8 : Int32)), .val (.int ((own_ush32 (w0_w_bytes_q1 &&& (255 : Int32)) (0 : Int32)) &&& (255 : Int32)))] [(.int (1 : Int32))])
  refine own_istore X24 hx (hb hby d7_48) (pc' := 50) rfl (Ls' := #[.val (.ref q1), .val (.int (16 : Int32)), .val (.ref q3), .val (.long (((8 : Int64) * (z_q1.toInt64)) - (0 : Int64))), .second, .val (.long ((0 : Int64) ||| (((own_ush32 (w0_w_bytes_q1 &&& (255 : Int32)) (0 : Int32)) &&& (255 : Int32)).toInt64))), .second, .val (.int (8 : Int32)), .val (.int (1 : Int32)), .val (.int (8 : Int32)), .val (.int (8 : Int32)), .val (.int ((own_ush32 (w0_w_bytes_q1 &&& (255 : Int32)) (0 : Int32)) &&& (255 : Int32)))]) rfl ?_
  refine own_bipush X24 hx (hb hby d7_50) (pc' := 52) rfl (v := (8 : Int32)) rfl ?_
  refine own_aloadN X24 hx (hb hby d7_52) (pc' := 53) rfl rfl rfl ?_
  refine own_getF X24 hx hZ hown (hw _ (List.mem_of_getElem? (i := 18) rfl)) Via.refl e24 F_q1_position_23 (hb hby d7_53) (pc' := 56) rfl (fun T25 X25 e25 => ?_)
  refine own_ldc2Long X25 hx hZ hown (hw _ (List.mem_of_getElem? (i := 20) rfl)) (hb hby d7_56) (pc' := 59) rfl ?_
  refine own_lrem X25 hx (hb hby d7_59) (pc' := 60) rfl (by decide) ?_
  show own_Fin _ _ _ _ T25 (mkF m 60 #[.val (.ref q1), .val (.int (16 : Int32)), .val (.ref q3), .val (.long (((8 : Int64) * (z_q1.toInt64)) - (0 : Int64))), .second, .val (.long ((0 : Int64) ||| (((own_ush32 (w0_w_bytes_q1 &&& (255 : Int32)) (0 : Int32)) &&& (255 : Int32)).toInt64))), .second, .val (.int (8 : Int32)), .val (.int (1 : Int32)), .val (.int (8 : Int32)), .val (.int (8 : Int32)), .val (.int ((own_ush32 (w0_w_bytes_q1 &&& (255 : Int32)) (0 : Int32)) &&& (255 : Int32)))] [(.long (0 : Int64)), (.int (8 : Int32))])
  refine own_l2i X25 hx (hb hby d7_60) (pc' := 61) rfl ?_
  show own_Fin _ _ _ _ T25 (mkF m 61 #[.val (.ref q1), .val (.int (16 : Int32)), .val (.ref q3), .val (.long (((8 : Int64) * (z_q1.toInt64)) - (0 : Int64))), .second, .val (.long ((0 : Int64) ||| (((own_ush32 (w0_w_bytes_q1 &&& (255 : Int32)) (0 : Int32)) &&& (255 : Int32)).toInt64))), .second, .val (.int (8 : Int32)), .val (.int (1 : Int32)), .val (.int (8 : Int32)), .val (.int (8 : Int32)), .val (.int ((own_ush32 (w0_w_bytes_q1 &&& (255 : Int32)) (0 : Int32)) &&& (255 : Int32)))] [(.int (0 : Int32)), (.int (8 : Int32))])
  refine own_isub X25 hx (hb hby d7_61) (pc' := 62) rfl ?_
  show own_Fin _ _ _ _ T25 (mkF m 62 #[.val (.ref q1), .val (.int (16 : Int32)), .val (.ref q3), .val (.long (((8 : Int64) * (z_q1.toInt64)) - (0 : Int64))), .second, .val (.long ((0 : Int64) ||| (((own_ush32 (w0_w_bytes_q1 &&& (255 : Int32)) (0 : Int32)) &&& (255 : Int32)).toInt64))), .second, .val (.int (8 : Int32)), .val (.int (1 : Int32)), .val (.int (8 : Int32)), .val (.int (8 : Int32)), .val (.int ((own_ush32 (w0_w_bytes_q1 &&& (255 : Int32)) (0 : Int32)) &&& (255 : Int32)))] [(.int (8 : Int32))])
  refine own_istore X25 hx (hb hby d7_62) (pc' := 64) rfl (Ls' := #[.val (.ref q1), .val (.int (16 : Int32)), .val (.ref q3), .val (.long (((8 : Int64) * (z_q1.toInt64)) - (0 : Int64))), .second, .val (.long ((0 : Int64) ||| (((own_ush32 (w0_w_bytes_q1 &&& (255 : Int32)) (0 : Int32)) &&& (255 : Int32)).toInt64))), .second, .val (.int (8 : Int32)), .val (.int (1 : Int32)), .val (.int (8 : Int32)), .val (.int (8 : Int32)), .val (.int ((own_ush32 (w0_w_bytes_q1 &&& (255 : Int32)) (0 : Int32)) &&& (255 : Int32)))]) rfl ?_
  refine own_iload X25 hx (hb hby d7_64) (pc' := 66) rfl rfl ?_
  refine own_iload X25 hx (hb hby d7_66) (pc' := 68) rfl rfl ?_
  obtain ⟨_, _, ⟨T26, L26, k26, n26⟩, -, X26, ⟨Lc26, hQ26, l26, y26, z26⟩, st26⟩ := Jvm.LawKit.callS X25 hx (y := (⟨"java/lang/Math", "min", "(II)I"⟩ : MethodName)) hown (mvT hZ (hw _ (List.mem_of_getElem? (i := 52) rfl))) (mvT hZ (hw _ (List.mem_of_getElem? (i := 53) rfl))) (mvT hZ (hw _ (List.mem_of_getElem? (i := 54) rfl))) (mvT hZ (hw _ (List.mem_of_getElem? (i := 55) rfl))) (by decide) (backOf (W := 0) (rm9 l Z a0 hw [] (8 : Int32) (8 : Int32) h23 n0 sz23 ) hZ (hw _ (List.mem_of_getElem? (i := 55) rfl)) (hw _ (List.mem_of_getElem? (i := 54) rfl)) (by decide) (by decide)) (g := (mkF m 68 #[.val (.ref q1), .val (.int (16 : Int32)), .val (.ref q3), .val (.long (((8 : Int64) * (z_q1.toInt64)) - (0 : Int64))), .second, .val (.long ((0 : Int64) ||| (((own_ush32 (w0_w_bytes_q1 &&& (255 : Int32)) (0 : Int32)) &&& (255 : Int32)).toInt64))), .second, .val (.int (8 : Int32)), .val (.int (1 : Int32)), .val (.int (8 : Int32)), .val (.int (8 : Int32)), .val (.int ((own_ush32 (w0_w_bytes_q1 &&& (255 : Int32)) (0 : Int32)) &&& (255 : Int32)))] [(.int (8 : Int32)), (.int (8 : Int32))])) rfl (by rw [hml]; rfl) (argsL := [(.int (8 : Int32)), (.int (8 : Int32))]) (rest := []) (lenOf pd_1 rfl) rfl (by show 2 * 0 + _ ≤ _; exact Nat.le_of_eq rfl) (hb hby d7_68) (fun _ _ => ⟨rfl, e25, (by decide : 0 + 0 ≤ _), (by decide : 0 + 0 ≤ _)⟩)
  dsimp only [Pt.U, Pt.locs, Pt.cells, Pt.slots] at X26 l26 y26 z26 st26 hQ26
  subst l26 y26 z26
  obtain ⟨rfl, N26q, e26'⟩ := hQ26
  have N26 := Fr.app N23 N26q
  refine own_st ?_ st26
  show own_Fin _ _ _ _ T26 (mkF m 71 #[.val (.ref q1), .val (.int (16 : Int32)), .val (.ref q3), .val (.long (((8 : Int64) * (z_q1.toInt64)) - (0 : Int64))), .second, .val (.long ((0 : Int64) ||| (((own_ush32 (w0_w_bytes_q1 &&& (255 : Int32)) (0 : Int32)) &&& (255 : Int32)).toInt64))), .second, .val (.int (8 : Int32)), .val (.int (1 : Int32)), .val (.int (8 : Int32)), .val (.int (8 : Int32)), .val (.int ((own_ush32 (w0_w_bytes_q1 &&& (255 : Int32)) (0 : Int32)) &&& (255 : Int32)))] [(.int (own_f9 (8 : Int32) (8 : Int32)))])
  rw [(by decide : own_f9 (8 : Int32) (8 : Int32) = (8 : Int32))]
  show own_Fin _ _ _ _ T26 (mkF m 71 #[.val (.ref q1), .val (.int (16 : Int32)), .val (.ref q3), .val (.long (((8 : Int64) * (z_q1.toInt64)) - (0 : Int64))), .second, .val (.long ((0 : Int64) ||| (((own_ush32 (w0_w_bytes_q1 &&& (255 : Int32)) (0 : Int32)) &&& (255 : Int32)).toInt64))), .second, .val (.int (8 : Int32)), .val (.int (1 : Int32)), .val (.int (8 : Int32)), .val (.int (8 : Int32)), .val (.int ((own_ush32 (w0_w_bytes_q1 &&& (255 : Int32)) (0 : Int32)) &&& (255 : Int32)))] [(.int (8 : Int32))])
  refine own_istore X26 hx (hb hby d7_71) (pc' := 73) rfl (Ls' := #[.val (.ref q1), .val (.int (16 : Int32)), .val (.ref q3), .val (.long (((8 : Int64) * (z_q1.toInt64)) - (0 : Int64))), .second, .val (.long ((0 : Int64) ||| (((own_ush32 (w0_w_bytes_q1 &&& (255 : Int32)) (0 : Int32)) &&& (255 : Int32)).toInt64))), .second, .val (.int (8 : Int32)), .val (.int (1 : Int32)), .val (.int (8 : Int32)), .val (.int (8 : Int32)), .val (.int ((own_ush32 (w0_w_bytes_q1 &&& (255 : Int32)) (0 : Int32)) &&& (255 : Int32)))]) rfl ?_
  refine own_aloadN X26 hx (hb hby d7_73) (pc' := 74) rfl rfl rfl ?_
  refine own_getF X26 hx hZ hown (hw _ (List.mem_of_getElem? (i := 11) rfl)) Via.refl e26' F_q1_bytes_23 (hb hby d7_74) (pc' := 77) rfl (fun T27 X27 e27 => ?_)
  refine own_iload X27 hx (hb hby d7_77) (pc' := 79) rfl rfl ?_
  obtain ⟨cl28, Ar28, qa28, S28, M28, H28, G28⟩ := id A_w_bytes_q1_23
  have hin28 : ¬ ((1 : Int32) < 0 ∨ cl28.slots.size ≤ ((1 : Int32)).toNatClampNeg) := inb_of S28 ⟨by decide, hz⟩
  refine own_st ?_ (fun t k => X27.baloadBytes hx (j := (1 : Int32)) (v := (.int w1_w_bytes_q1)) (by rw [e27]; exact Ar28.1) (State.isArrayOf_alike hZ.alike Ar28.2.1) Ar28.2.2 hin28 (Has.at H28 hin28 rfl) (g := (mkF m 79 #[.val (.ref q1), .val (.int (16 : Int32)), .val (.ref q3), .val (.long (((8 : Int64) * (z_q1.toInt64)) - (0 : Int64))), .second, .val (.long ((0 : Int64) ||| (((own_ush32 (w0_w_bytes_q1 &&& (255 : Int32)) (0 : Int32)) &&& (255 : Int32)).toInt64))), .second, .val (.int (8 : Int32)), .val (.int (1 : Int32)), .val (.int (8 : Int32)), .val (.int (8 : Int32)), .val (.int ((own_ush32 (w0_w_bytes_q1 &&& (255 : Int32)) (0 : Int32)) &&& (255 : Int32)))] [(.int (1 : Int32)), (.ref w_bytes_q1)])) rfl rfl (hb hby d7_79) t k)
  show own_Fin _ _ _ _ T27 (mkF m 80 #[.val (.ref q1), .val (.int (16 : Int32)), .val (.ref q3), .val (.long (((8 : Int64) * (z_q1.toInt64)) - (0 : Int64))), .second, .val (.long ((0 : Int64) ||| (((own_ush32 (w0_w_bytes_q1 &&& (255 : Int32)) (0 : Int32)) &&& (255 : Int32)).toInt64))), .second, .val (.int (8 : Int32)), .val (.int (1 : Int32)), .val (.int (8 : Int32)), .val (.int (8 : Int32)), .val (.int ((own_ush32 (w0_w_bytes_q1 &&& (255 : Int32)) (0 : Int32)) &&& (255 : Int32)))] [(.int w1_w_bytes_q1)])
  refine own_sipush X27 hx (hb hby d7_80) (pc' := 83) rfl (v := (255 : Int32)) rfl ?_
  refine own_iand X27 hx (hb hby d7_83) (pc' := 84) rfl ?_
  refine own_iload X27 hx (hb hby d7_84) (pc' := 86) rfl rfl ?_
  refine own_iload X27 hx (hb hby d7_86) (pc' := 88) rfl rfl ?_
  refine own_isub X27 hx (hb hby d7_88) (pc' := 89) rfl ?_
  show own_Fin _ _ _ _ T27 (mkF m 89 #[.val (.ref q1), .val (.int (16 : Int32)), .val (.ref q3), .val (.long (((8 : Int64) * (z_q1.toInt64)) - (0 : Int64))), .second, .val (.long ((0 : Int64) ||| (((own_ush32 (w0_w_bytes_q1 &&& (255 : Int32)) (0 : Int32)) &&& (255 : Int32)).toInt64))), .second, .val (.int (8 : Int32)), .val (.int (1 : Int32)), .val (.int (8 : Int32)), .val (.int (8 : Int32)), .val (.int ((own_ush32 (w0_w_bytes_q1 &&& (255 : Int32)) (0 : Int32)) &&& (255 : Int32)))] [(.int (0 : Int32)), (.int (w1_w_bytes_q1 &&& (255 : Int32)))])
  refine own_iushr X27 hx (hb hby d7_89) (pc' := 90) rfl ?_
  refine own_iconst X27 hx (hb hby d7_90) (pc' := 91) rfl (v := (1 : Int32)) rfl ?_
  refine own_iload X27 hx (hb hby d7_91) (pc' := 93) rfl rfl ?_
  refine own_ishl X27 hx (hb hby d7_93) (pc' := 94) rfl ?_
  show own_Fin _ _ _ _ T27 (mkF m 94 #[.val (.ref q1), .val (.int (16 : Int32)), .val (.ref q3), .val (.long (((8 : Int64) * (z_q1.toInt64)) - (0 : Int64))), .second, .val (.long ((0 : Int64) ||| (((own_ush32 (w0_w_bytes_q1 &&& (255 : Int32)) (0 : Int32)) &&& (255 : Int32)).toInt64))), .second, .val (.int (8 : Int32)), .val (.int (1 : Int32)), .val (.int (8 : Int32)), .val (.int (8 : Int32)), .val (.int ((own_ush32 (w0_w_bytes_q1 &&& (255 : Int32)) (0 : Int32)) &&& (255 : Int32)))] [(.int (256 : Int32)), (.int (own_ush32 (w1_w_bytes_q1 &&& (255 : Int32)) (0 : Int32)))])
  refine own_iconst X27 hx (hb hby d7_94) (pc' := 95) rfl (v := (1 : Int32)) rfl ?_
  refine own_isub X27 hx (hb hby d7_95) (pc' := 96) rfl ?_
  show own_Fin _ _ _ _ T27 (mkF m 96 #[.val (.ref q1), .val (.int (16 : Int32)), .val (.ref q3), .val (.long (((8 : Int64) * (z_q1.toInt64)) - (0 : Int64))), .second, .val (.long ((0 : Int64) ||| (((own_ush32 (w0_w_bytes_q1 &&& (255 : Int32)) (0 : Int32)) &&& (255 : Int32)).toInt64))), .second, .val (.int (8 : Int32)), .val (.int (1 : Int32)), .val (.int (8 : Int32)), .val (.int (8 : Int32)), .val (.int ((own_ush32 (w0_w_bytes_q1 &&& (255 : Int32)) (0 : Int32)) &&& (255 : Int32)))] [(.int (255 : Int32)), (.int (own_ush32 (w1_w_bytes_q1 &&& (255 : Int32)) (0 : Int32)))])
  refine own_iand X27 hx (hb hby d7_96) (pc' := 97) rfl ?_
  refine own_istore X27 hx (hb hby d7_97) (pc' := 99) rfl (Ls' := #[.val (.ref q1), .val (.int (16 : Int32)), .val (.ref q3), .val (.long (((8 : Int64) * (z_q1.toInt64)) - (0 : Int64))), .second, .val (.long ((0 : Int64) ||| (((own_ush32 (w0_w_bytes_q1 &&& (255 : Int32)) (0 : Int32)) &&& (255 : Int32)).toInt64))), .second, .val (.int (8 : Int32)), .val (.int (1 : Int32)), .val (.int (8 : Int32)), .val (.int (8 : Int32)), .val (.int ((own_ush32 (w1_w_bytes_q1 &&& (255 : Int32)) (0 : Int32)) &&& (255 : Int32)))]) rfl ?_
  refine own_lload X27 hx (hb hby d7_99) (pc' := 101) rfl rfl ?_
  refine own_iload X27 hx (hb hby d7_101) (pc' := 103) rfl rfl ?_
  refine own_lshl X27 hx (hb hby d7_103) (pc' := 104) rfl ?_
  refine own_iload X27 hx (hb hby d7_104) (pc' := 106) rfl rfl ?_
  refine own_i2l X27 hx (hb hby d7_106) (pc' := 107) rfl ?_
  refine own_lor X27 hx (hb hby d7_107) (pc' := 108) rfl ?_
  refine own_lstore X27 hx (hb hby d7_108) (pc' := 110) rfl (Ls' := #[.val (.ref q1), .val (.int (16 : Int32)), .val (.ref q3), .val (.long (((8 : Int64) * (z_q1.toInt64)) - (0 : Int64))), .second, .val (.long ((((0 : Int64) ||| (((own_ush32 (w0_w_bytes_q1 &&& (255 : Int32)) (0 : Int32)) &&& (255 : Int32)).toInt64)) <<< ((8 : Int32) &&& 63).toInt64) ||| (((own_ush32 (w1_w_bytes_q1 &&& (255 : Int32)) (0 : Int32)) &&& (255 : Int32)).toInt64))), .second, .val (.int (8 : Int32)), .val (.int (1 : Int32)), .val (.int (8 : Int32)), .val (.int (8 : Int32)), .val (.int ((own_ush32 (w1_w_bytes_q1 &&& (255 : Int32)) (0 : Int32)) &&& (255 : Int32)))]) rfl ?_
  refine own_aloadN X27 hx (hb hby d7_110) (pc' := 111) rfl rfl rfl ?_
  refine own_dup X27 hx (hb hby d7_111) (pc' := 112) rfl rfl ?_
  refine own_getF X27 hx hZ hown (hw _ (List.mem_of_getElem? (i := 18) rfl)) Via.refl e27 F_q1_position_23 (hb hby d7_112) (pc' := 115) rfl (fun T29 X29 e29 => ?_)
  refine own_iload X29 hx (hb hby d7_115) (pc' := 117) rfl rfl ?_
  refine own_i2l X29 hx (hb hby d7_117) (pc' := 118) rfl ?_
  show own_Fin _ _ _ _ T29 (mkF m 118 #[.val (.ref q1), .val (.int (16 : Int32)), .val (.ref q3), .val (.long (((8 : Int64) * (z_q1.toInt64)) - (0 : Int64))), .second, .val (.long ((((0 : Int64) ||| (((own_ush32 (w0_w_bytes_q1 &&& (255 : Int32)) (0 : Int32)) &&& (255 : Int32)).toInt64)) <<< ((8 : Int32) &&& 63).toInt64) ||| (((own_ush32 (w1_w_bytes_q1 &&& (255 : Int32)) (0 : Int32)) &&& (255 : Int32)).toInt64))), .second, .val (.int (8 : Int32)), .val (.int (1 : Int32)), .val (.int (8 : Int32)), .val (.int (8 : Int32)), .val (.int ((own_ush32 (w1_w_bytes_q1 &&& (255 : Int32)) (0 : Int32)) &&& (255 : Int32)))] [(.long (8 : Int64)), (.long (8 : Int64)), (.ref q1)])
  refine own_ladd X29 hx (hb hby d7_118) (pc' := 119) rfl ?_
  show own_Fin _ _ _ _ T29 (mkF m 119 #[.val (.ref q1), .val (.int (16 : Int32)), .val (.ref q3), .val (.long (((8 : Int64) * (z_q1.toInt64)) - (0 : Int64))), .second, .val (.long ((((0 : Int64) ||| (((own_ush32 (w0_w_bytes_q1 &&& (255 : Int32)) (0 : Int32)) &&& (255 : Int32)).toInt64)) <<< ((8 : Int32) &&& 63).toInt64) ||| (((own_ush32 (w1_w_bytes_q1 &&& (255 : Int32)) (0 : Int32)) &&& (255 : Int32)).toInt64))), .second, .val (.int (8 : Int32)), .val (.int (1 : Int32)), .val (.int (8 : Int32)), .val (.int (8 : Int32)), .val (.int ((own_ush32 (w1_w_bytes_q1 &&& (255 : Int32)) (0 : Int32)) &&& (255 : Int32)))] [(.long (16 : Int64)), (.ref q1)])
  obtain ⟨T30, h30, X30, e30, W30, st30⟩ := putF X29 hx hZ hown (host := "") (Or.inl (hw _ (List.mem_of_getElem? (i := 18) rfl))) Via.refl e29 F_q1_position_23 E_q1_23 (Or.inl (hw _ (List.mem_of_getElem? (i := 19) rfl))) (hw _ (List.mem_of_getElem? (i := 3) rfl)) (ty := .long) (by decide) rfl rfl (g := (mkF m 119 #[.val (.ref q1), .val (.int (16 : Int32)), .val (.ref q3), .val (.long (((8 : Int64) * (z_q1.toInt64)) - (0 : Int64))), .second, .val (.long ((((0 : Int64) ||| (((own_ush32 (w0_w_bytes_q1 &&& (255 : Int32)) (0 : Int32)) &&& (255 : Int32)).toInt64)) <<< ((8 : Int32) &&& 63).toInt64) ||| (((own_ush32 (w1_w_bytes_q1 &&& (255 : Int32)) (0 : Int32)) &&& (255 : Int32)).toInt64))), .second, .val (.int (8 : Int32)), .val (.int (1 : Int32)), .val (.int (8 : Int32)), .val (.int (8 : Int32)), .val (.int ((own_ush32 (w1_w_bytes_q1 &&& (255 : Int32)) (0 : Int32)) &&& (255 : Int32)))] [(.long (16 : Int64)), (.ref q1)])) rfl rfl (hb hby d7_119)
  have E_q1_30 : Exa Z h30 q1 "com/example/typewire/typewire/packet/BitInput" := E_q1_23.wr W30
  have F_q1_bytes_30 : Fld Z h30 q1 "com/example/typewire/typewire/packet/BitInput" "bytes" "[B" (.ref w_bytes_q1) := F_q1_bytes_23.other W30 (Or.inr (slot_ne (Or.inr (hw _ (List.mem_of_getElem? (i := 12) rfl))) (Or.inl (hw _ (List.mem_of_getElem? (i := 19) rfl))) (by decide) (t := (.array .byte)) (t' := .long) (by decide) (by decide)))
  have F_q1_position_30 : Fld Z h30 q1 "com/example/typewire/typewire/packet/BitInput" "position" "J" (.long (16 : Int64)) := F_q1_position_23.same W30
  have A_w_bytes_q1_30 : Arv Z h30 w_bytes_q1 kc_w_bytes_q1 .byte z_q1 [(.int w0_w_bytes_q1), (.int w1_w_bytes_q1), (.int w2_w_bytes_q1), (.int w3_w_bytes_q1)] (.int (0 : Int32)) := A_w_bytes_q1_23.other W30 (Ne.symm ne_q1_w_bytes_q1)
  have N30 := Fr.snoc X30 N26 g_q1
  have sz30 : n0 ≤ h30.size := Nat.le_trans sz23 (Keep.of_wr W30).1
  have K30 : Keep h0 h30 [q1, w_bytes_q1] := K23.wr W30 (Or.inl (List.mem_of_getElem? (i := 0) rfl))
  refine own_st ?_ st30
  show own_Fin _ _ _ _ T30 (mkF m 122 #[.val (.ref q1), .val (.int (16 : Int32)), .val (.ref q3), .val (.long (((8 : Int64) * (z_q1.toInt64)) - (0 : Int64))), .second, .val (.long ((((0 : Int64) ||| (((own_ush32 (w0_w_bytes_q1 &&& (255 : Int32)) (0 : Int32)) &&& (255 : Int32)).toInt64)) <<< ((8 : Int32) &&& 63).toInt64) ||| (((own_ush32 (w1_w_bytes_q1 &&& (255 : Int32)) (0 : Int32)) &&& (255 : Int32)).toInt64))), .second, .val (.int (8 : Int32)), .val (.int (1 : Int32)), .val (.int (8 : Int32)), .val (.int (8 : Int32)), .val (.int ((own_ush32 (w1_w_bytes_q1 &&& (255 : Int32)) (0 : Int32)) &&& (255 : Int32)))] [])
  refine own_iload X30 hx (hb hby d7_122) (pc' := 124) rfl rfl ?_
  refine own_iload X30 hx (hb hby d7_124) (pc' := 126) rfl rfl ?_
  refine own_isub X30 hx (hb hby d7_126) (pc' := 127) rfl ?_
  show own_Fin _ _ _ _ T30 (mkF m 127 #[.val (.ref q1), .val (.int (16 : Int32)), .val (.ref q3), .val (.long (((8 : Int64) * (z_q1.toInt64)) - (0 : Int64))), .second, .val (.long ((((0 : Int64) ||| (((own_ush32 (w0_w_bytes_q1 &&& (255 : Int32)) (0 : Int32)) &&& (255 : Int32)).toInt64)) <<< ((8 : Int32) &&& 63).toInt64) ||| (((own_ush32 (w1_w_bytes_q1 &&& (255 : Int32)) (0 : Int32)) &&& (255 : Int32)).toInt64))), .second, .val (.int (8 : Int32)), .val (.int (1 : Int32)), .val (.int (8 : Int32)), .val (.int (8 : Int32)), .val (.int ((own_ush32 (w1_w_bytes_q1 &&& (255 : Int32)) (0 : Int32)) &&& (255 : Int32)))] [(.int (0 : Int32))])
  refine own_istore X30 hx (hb hby d7_127) (pc' := 129) rfl (Ls' := #[.val (.ref q1), .val (.int (16 : Int32)), .val (.ref q3), .val (.long (((8 : Int64) * (z_q1.toInt64)) - (0 : Int64))), .second, .val (.long ((((0 : Int64) ||| (((own_ush32 (w0_w_bytes_q1 &&& (255 : Int32)) (0 : Int32)) &&& (255 : Int32)).toInt64)) <<< ((8 : Int32) &&& 63).toInt64) ||| (((own_ush32 (w1_w_bytes_q1 &&& (255 : Int32)) (0 : Int32)) &&& (255 : Int32)).toInt64))), .second, .val (.int (0 : Int32)), .val (.int (1 : Int32)), .val (.int (8 : Int32)), .val (.int (8 : Int32)), .val (.int ((own_ush32 (w1_w_bytes_q1 &&& (255 : Int32)) (0 : Int32)) &&& (255 : Int32)))]) rfl ?_
  refine own_goto X30 hx (hb hby d7_129) (pc' := 34) (by decide) (by decide) ?_
  refine own_iload X30 hx (hb hby d7_34) (pc' := 36) rfl rfl ?_
  refine own_ifYes X30 hx (hb hby d7_36) ((if0 _ _).trans (flt (by decide : ¬ ((0 : Int32) < (0 : Int32)))).2.2.2) (pc' := 132) (by decide) (by decide) ?_
  refine own_lload X30 hx (hb hby d7_132) (pc' := 134) rfl rfl ?_
  refine own_retJ X30 hx hret hlk (hb hby d7_134) (by decide) (by decide) ?_
  show own_Q7s2 Z q1 q3 w_bytes_q1 z_q1 kc_w_bytes_q1 w0_w_bytes_q1 w1_w_bytes_q1 w2_w_bytes_q1 w3_w_bytes_q1 h0 n0 _ T30.heap _
  rw [e30]
  exact ⟨(congrArg some (congrArg Value.long (show ((((0 : Int64) ||| (((own_ush32 (w0_w_bytes_q1 &&& (255 : Int32)) (0 : Int32)) &&& (255 : Int32)).toInt64)) <<< ((8 : Int32) &&& 63).toInt64) ||| (((own_ush32 (w1_w_bytes_q1 &&& (255 : Int32)) (0 : Int32)) &&& (255 : Int32)).toInt64)) = (own_f7s2 z_q1 w0_w_bytes_q1 w1_w_bytes_q1 w2_w_bytes_q1 w3_w_bytes_q1) from by rw [own_f7s2]))), N30, K30, E_q1_30, F_q1_bytes_30, F_q1_position_30, A_w_bytes_q1_30⟩
theorem ef_7s2 (m : MethodId) (q1 : Addr) (q3 : Addr) : entryFrame m #[(.ref q1), (.int (16 : Int32)), (.ref q3)] 12 = mkF m 0 #[.val (.ref q1), .val (.int (16 : Int32)), .val (.ref q3), .unset, .unset, .unset, .unset, .unset, .unset, .unset, .unset, .unset] [] := by first | (simp [entryFrame, mkF, argsToLocals, Value.category]; done) | rfl
set_option maxRecDepth 65536 in
set_option maxHeartbeats 40000000 in
theorem rm7s2 (l : Launch) (Z : State) (a0 : Array Value) (hw : ∀ d ∈ tables_1, d.before a0 Z = true) (ws : List Jvm.Cond) (q1 : Addr) (q3 : Addr) (w_bytes_q1 : Addr) (z_q1 : Int32) (kc_w_bytes_q1 : ClassId) (w0_w_bytes_q1 : Int32) (w1_w_bytes_q1 : Int32) (w2_w_bytes_q1 : Int32) (w3_w_bytes_q1 : Int32) (h0 : Heap) (n0 : Nat) (Z0 : n0 ≤ h0.size) (E_q1 : Exa Z h0 q1 "com/example/typewire/typewire/packet/BitInput") (g_q1 : n0 ≤ q1) (F_bytes_q1 : Fld Z h0 q1 "com/example/typewire/typewire/packet/BitInput" "bytes" "[B" (.ref w_bytes_q1)) (F_position_q1 : Fld Z h0 q1 "com/example/typewire/typewire/packet/BitInput" "position" "J" (.long (0 : Int64))) (A_w_bytes_q1 : Arv Z h0 w_bytes_q1 kc_w_bytes_q1 .byte z_q1 [(.int w0_w_bytes_q1), (.int w1_w_bytes_q1), (.int w2_w_bytes_q1), (.int w3_w_bytes_q1)] (.int (0 : Int32))) (g_w_bytes_q1 : n0 ≤ w_bytes_q1) (ne_q1_w_bytes_q1 : q1 ≠ w_bytes_q1) (hz : (1 : Int32) < z_q1) (hc9 : ¬ ((((8 : Int64) * (z_q1.toInt64)) - (0 : Int64)) < (16 : Int64))) :
    MetFree l (⟨"com/example/typewire/typewire/packet/BitInput", "readBits", "(ILjava/lang/String;)J"⟩ : MethodName) (head1 (Jvm.Cond.code (⟨"com/example/typewire/typewire/packet/BitInput", "readBits", "(ILjava/lang/String;)J"⟩ : MethodName) prog_12_method_3_code 12 (some .long) :: ws) ({ frames := 1, cells := 0, slots := 0, locals := 13 } : Room)) (fun a U => a = #[(.ref q1), (.int (16 : Int32)), (.ref q3)] ∧ Z.Warmed39 U.vm ∧ U.heap = h0) (fun _ _ _ _ _ => True) (fun _ U o U' => ∃ v L, o = .returned v ∧ (own_Q7s2 Z q1 q3 w_bytes_q1 z_q1 kc_w_bytes_q1 w0_w_bytes_q1 w1_w_bytes_q1 w2_w_bytes_q1 w3_w_bytes_q1 h0 n0) v U'.heap L ∧ FrameEnd U o U' L ({ frames := 1, cells := 0, slots := 0, locals := 13 } : Room).cells ({ frames := 1, cells := 0, slots := 0, locals := 13 } : Room).slots) := by
  refine MetFree.of_bodySF (plainFor_of_name pn_7) hisR ?_
  intro p e s m args below meth c s₁ Bd hml0 hP hK
  obtain ⟨rfl, hZ, hh⟩ := hP
  have hown : s.vm.findClass "com/example/typewire/typewire/packet/BitInput" = some m.cls := findClass_of_methodNamed Bd.named
  have hnm := (name_of_methodNamed Bd.named Bd.method).1
  have X0 : Stand p l e ({ frames := 1, cells := 0, slots := 0, locals := 13 } : Room) s m #[(.ref q1), (.int (16 : Int32)), (.ref q3)] below meth c s₁ [] 0 0 := Stand.of_body Bd
  have e0 : s₁.heap = h0 := by rw [← hh, Bd.state]; rfl
  have H := sg7s2_0 l hw Bd.exec hZ Bd.bytes hml0 hown hnm Bd.returns Bd.notSynchronized q1 q3 w_bytes_q1 z_q1 kc_w_bytes_q1 w0_w_bytes_q1 w1_w_bytes_q1 w2_w_bytes_q1 w3_w_bytes_q1 Z0 X0 (Fr.nil n0) e0 E_q1 g_q1 F_bytes_q1 F_position_q1 A_w_bytes_q1 g_w_bytes_q1 ne_q1_w_bytes_q1 hz hc9
  obtain ⟨t, h1, h2, o, h3, h4⟩ := H
  exact ⟨t, o, castTop (ef_7s2 m q1 q3) h1, h2, h3, h4⟩
def own_f7s3 (z_q1 : Int32) (w0_w_bytes_q1 : Int32) (w1_w_bytes_q1 : Int32) (w2_w_bytes_q1 : Int32) (w3_w_bytes_q1 : Int32) : Int64 :=
  ((((((0 : Int64) ||| (((own_ush32 (w0_w_bytes_q1 &&& (255 : Int32)) (0 : Int32)) &&& (255 : Int32)).toInt64)) <<< ((8 : Int32) &&& 63).toInt64) ||| (((own_ush32 (w1_w_bytes_q1 &&& (255 : Int32)) (0 : Int32)) &&& (255 : Int32)).toInt64)) <<< ((8 : Int32) &&& 63).toInt64) ||| (((own_ush32 (w2_w_bytes_q1 &&& (255 : Int32)) (0 : Int32)) &&& (255 : Int32)).toInt64))
def own_Q7s3 (Z : State) (q1 : Addr) (q3 : Addr) (w_bytes_q1 : Addr) (z_q1 : Int32) (kc_w_bytes_q1 : ClassId) (w0_w_bytes_q1 : Int32) (w1_w_bytes_q1 : Int32) (w2_w_bytes_q1 : Int32) (w3_w_bytes_q1 : Int32) (h0 : Heap) (n0 : Nat) (v : Option Value) (h : Heap) (L : List Loc) : Prop := v = some (.long (own_f7s3 z_q1 w0_w_bytes_q1 w1_w_bytes_q1 w2_w_bytes_q1 w3_w_bytes_q1)) ∧ Fr n0 L ∧ Keep h0 h [q1, w_bytes_q1] ∧ Exa Z h q1 "com/example/typewire/typewire/packet/BitInput" ∧ Fld Z h q1 "com/example/typewire/typewire/packet/BitInput" "bytes" "[B" (.ref w_bytes_q1) ∧ Fld Z h q1 "com/example/typewire/typewire/packet/BitInput" "position" "J" (.long (24 : Int64)) ∧ Arv Z h w_bytes_q1 kc_w_bytes_q1 .byte z_q1 [(.int w0_w_bytes_q1), (.int w1_w_bytes_q1), (.int w2_w_bytes_q1), (.int w3_w_bytes_q1)] (.int (0 : Int32))
set_option maxRecDepth 65536 in
set_option maxHeartbeats 40000000 in
theorem sg7s3_0 {p : Program} (l : Launch) {e : Env} {s : State} {m : MethodId} {args : Array Value} {below : List Frame} {meth : Method} {c : Code} {Z : State} {a0 : Array Value} (hw : ∀ d ∈ tables_1, d.before a0 Z = true) (hx : p.tables.exec = Jvm.exec) (hZ : Z.Warmed39 s.vm) (hby : c.code = prog_12_method_3_code) (hml : c.maxLocals = 12) (hown : s.vm.findClass "com/example/typewire/typewire/packet/BitInput" = some m.cls) (hnm : meth.name = "readBits") (hret : meth.sig.returnType = (some .long)) (hlk : meth.locks = false) (q1 : Addr) (q3 : Addr) (w_bytes_q1 : Addr) (z_q1 : Int32) (kc_w_bytes_q1 : ClassId) (w0_w_bytes_q1 : Int32) (w1_w_bytes_q1 : Int32) (w2_w_bytes_q1 : Int32) (w3_w_bytes_q1 : Int32) {h0 : Heap} {n0 : Nat} (Z0 : n0 ≤ h0.size) {T0 : State} {L0 : List Loc} (X0 : Stand p l e ({ frames := 1, cells := 0, slots := 0, locals := 13 } : Room) s m args below meth c T0 L0 0 0) (N0 : Fr n0 L0) (e0 : T0.heap = h0) (E_q1 : Exa Z h0 q1 "com/example/typewire/typewire/packet/BitInput") (g_q1 : n0 ≤ q1) (F_bytes_q1 : Fld Z h0 q1 "com/example/typewire/typewire/packet/BitInput" "bytes" "[B" (.ref w_bytes_q1)) (F_position_q1 : Fld Z h0 q1 "com/example/typewire/typewire/packet/BitInput" "position" "J" (.long (0 : Int64))) (A_w_bytes_q1 : Arv Z h0 w_bytes_q1 kc_w_bytes_q1 .byte z_q1 [(.int w0_w_bytes_q1), (.int w1_w_bytes_q1), (.int w2_w_bytes_q1), (.int w3_w_bytes_q1)] (.int (0 : Int32))) (g_w_bytes_q1 : n0 ≤ w_bytes_q1) (ne_q1_w_bytes_q1 : q1 ≠ w_bytes_q1) (hz : (2 : Int32) < z_q1) (hc9 : ¬ ((((8 : Int64) * (z_q1.toInt64)) - (0 : Int64)) < (24 : Int64))) :
    own_Fin p.tables e below (own_End below s (own_Q7s3 Z q1 q3 w_bytes_q1 z_q1 kc_w_bytes_q1 w0_w_bytes_q1 w1_w_bytes_q1 w2_w_bytes_q1 w3_w_bytes_q1 h0 n0) 0 0) T0 (mkF m 0 #[.val (.ref q1), .val (.int (24 : Int32)), .val (.ref q3), .unset, .unset, .unset, .unset, .unset, .unset, .unset, .unset, .unset] []) := by
  have K0 := Keep.refl h0 [q1, w_bytes_q1]
  refine own_aloadN X0 hx (hb hby d7_0) (pc' := 1) rfl rfl rfl ?_
  obtain ⟨cq31, q31, q31'⟩ := E_q1.cell
  obtain ⟨_, _, ⟨T31, L31, k31, n31⟩, -, X31, ⟨Lc31, hQ31, l31, y31, z31⟩, st31⟩ := X0.privateBack hx (y := (⟨"com/example/typewire/typewire/packet/BitInput", "bitsLeft", "()J"⟩ : MethodName)) hown (mvT hZ (hw _ (List.mem_of_getElem? (i := 48) rfl))) (mvT hZ (hw _ (List.mem_of_getElem? (i := 49) rfl))) (own_selP hZ (hw _ (List.mem_of_getElem? (i := 49) rfl)) (hw _ (List.mem_of_getElem? (i := 50) rfl)) (hw _ (List.mem_of_getElem? (i := 16) rfl))) (Cond.privateMethod_at (mvP hZ (hw _ (List.mem_of_getElem? (i := 50) rfl)) (args := #[]))) (mvT hZ (hw _ (List.mem_of_getElem? (i := 51) rfl))) (by decide) (backOf (W := 0) (rm8 l Z a0 hw [] q1 w_bytes_q1 (0 : Int64) z_q1 kc_w_bytes_q1 w0_w_bytes_q1 w1_w_bytes_q1 w2_w_bytes_q1 w3_w_bytes_q1 h0 n0 Z0 E_q1 F_bytes_q1 F_position_q1 A_w_bytes_q1) hZ (hw _ (List.mem_of_getElem? (i := 51) rfl)) (hw _ (List.mem_of_getElem? (i := 4) rfl)) (by decide) (by decide)) (g := (mkF m 1 #[.val (.ref q1), .val (.int (24 : Int32)), .val (.ref q3), .unset, .unset, .unset, .unset, .unset, .unset, .unset, .unset, .unset] [(.ref q1)])) rfl (by rw [hml]; rfl) (Steps.refl _) (a := q1) (by rw [e0]; exact q31) q31' (argsL := []) (rest := []) (lenOf pd_0 rfl) rfl (by show 2 * 0 + _ ≤ _; exact Nat.le_of_eq rfl) (hb hby d7_1) (fun _ _ => ⟨rfl, e0, (by decide : 0 + 0 ≤ _), (by decide : 0 + 0 ≤ _)⟩)
  dsimp only [Pt.U, Pt.locs, Pt.cells, Pt.slots] at X31 l31 y31 z31 st31 hQ31
  subst l31 y31 z31
  obtain ⟨rfl, N31q, e31'⟩ := hQ31
  have N31 := Fr.app N0 N31q
  refine own_st ?_ (fun t k => st31.trans k)
  show own_Fin _ _ _ _ T31 (mkF m 4 #[.val (.ref q1), .val (.int (24 : Int32)), .val (.ref q3), .unset, .unset, .unset, .unset, .unset, .unset, .unset, .unset, .unset] [(.long (((8 : Int64) * (z_q1.toInt64)) - (0 : Int64)))])
  refine own_lstoreN X31 hx (hb hby d7_4) (pc' := 5) rfl (Ls' := #[.val (.ref q1), .val (.int (24 : Int32)), .val (.ref q3), .val (.long (((8 : Int64) * (z_q1.toInt64)) - (0 : Int64))), .second, .unset, .unset, .unset, .unset, .unset, .unset, .unset]) rfl ?_
  refine own_lloadN X31 hx (hb hby d7_5) (pc' := 6) rfl rfl ?_
  refine own_iloadN X31 hx (hb hby d7_6) (pc' := 7) rfl rfl ?_
  refine own_i2l X31 hx (hb hby d7_7) (pc' := 8) rfl ?_
  show own_Fin _ _ _ _ T31 (mkF m 8 #[.val (.ref q1), .val (.int (24 : Int32)), .val (.ref q3), .val (.long (((8 : Int64) * (z_q1.toInt64)) - (0 : Int64))), .second, .unset, .unset, .unset, .unset, .unset, .unset, .unset] [(.long (24 : Int64)), (.long (((8 : Int64) * (z_q1.toInt64)) - (0 : Int64)))])
  refine own_lcmp X31 hx (hb hby d7_8) (pc' := 9) rfl ?_
  refine own_ifYes X31 hx (hb hby d7_9) ((if0 _ _).trans (flt (mt own_lc_lt.mp hc9)).2.1) (pc' := 28) (by decide) (by decide) ?_
  refine own_lconst X31 hx (hb hby d7_28) (pc' := 29) rfl (v := (0 : Int64)) rfl ?_
  refine own_lstore X31 hx (hb hby d7_29) (pc' := 31) rfl (Ls' := #[.val (.ref q1), .val (.int (24 : Int32)), .val (.ref q3), .val (.long (((8 : Int64) * (z_q1.toInt64)) - (0 : Int64))), .second, .val (.long (0 : Int64)), .second, .unset, .unset, .unset, .unset, .unset]) rfl ?_
  refine own_iloadN X31 hx (hb hby d7_31) (pc' := 32) rfl rfl ?_
  refine own_istore X31 hx (hb hby d7_32) (pc' := 34) rfl (Ls' := #[.val (.ref q1), .val (.int (24 : Int32)), .val (.ref q3), .val (.long (((8 : Int64) * (z_q1.toInt64)) - (0 : Int64))), .second, .val (.long (0 : Int64)), .second, .val (.int (24 : Int32)), .unset, .unset, .unset, .unset]) rfl ?_
  refine own_iload X31 hx (hb hby d7_34) (pc' := 36) rfl rfl ?_
  refine own_ifNo X31 hx (hb hby d7_36) (pc' := 39) rfl ((if0 _ _).trans (tlt (by decide : (0 : Int32) < (24 : Int32))).2.2.2) ?_
  refine own_aloadN X31 hx (hb hby d7_39) (pc' := 40) rfl rfl rfl ?_
  refine own_getF X31 hx hZ hown (hw _ (List.mem_of_getElem? (i := 18) rfl)) Via.refl e31' F_position_q1 (hb hby d7_40) (pc' := 43) rfl (fun T32 X32 e32 => ?_)
  refine own_ldc2Long X32 hx hZ hown (hw _ (List.mem_of_getElem? (i := 20) rfl)) (hb hby d7_43) (pc' := 46) rfl ?_
  refine own_ldiv X32 hx (hb hby d7_46) (pc' := 47) rfl (by decide) ?_
  show own_Fin _ _ _ _ T32 (mkF m 47 #[.val (.ref q1), .val (.int (24 : Int32)), .val (.ref q3), .val (.long (((8 : Int64) * (z_q1.toInt64)) - (0 : Int64))), .second, .val (.long (0 : Int64)), .second, .val (.int (24 : Int32)), .unset, .unset, .unset, .unset] [(.long (0 : Int64))])
  refine own_l2i X32 hx (hb hby d7_47) (pc' := 48) rfl ?_
  show own_Fin _ _ _ _ T32 (mkF m 48 #[.val (.ref q1), .val (.int (24 : Int32)), .val (.ref q3), .val (.long (((8 : Int64) * (z_q1.toInt64)) - (0 : Int64))), .second, .val (.long (0 : Int64)), .second, .val (.int (24 : Int32)), .unset, .unset, .unset, .unset] [(.int (0 : Int32))])
  refine own_istore X32 hx (hb hby d7_48) (pc' := 50) rfl (Ls' := #[.val (.ref q1), .val (.int (24 : Int32)), .val (.ref q3), .val (.long (((8 : Int64) * (z_q1.toInt64)) - (0 : Int64))), .second, .val (.long (0 : Int64)), .second, .val (.int (24 : Int32)), .val (.int (0 : Int32)), .unset, .unset, .unset]) rfl ?_
  refine own_bipush X32 hx (hb hby d7_50) (pc' := 52) rfl (v := (8 : Int32)) rfl ?_
  refine own_aloadN X32 hx (hb hby d7_52) (pc' := 53) rfl rfl rfl ?_
  refine own_getF X32 hx hZ hown (hw _ (List.mem_of_getElem? (i := 18) rfl)) Via.refl e32 F_position_q1 (hb hby d7_53) (pc' := 56) rfl (fun T33 X33 e33 => ?_)
  refine own_ldc2Long X33 hx hZ hown (hw _ (List.mem_of_getElem? (i := 20) rfl)) (hb hby d7_56) (pc' := 59) rfl ?_
  refine own_lrem X33 hx (hb hby d7_59) (pc' := 60) rfl (by decide) ?_
  show own_Fin _ _ _ _ T33 (mkF m 60 #[.val (.ref q1), .val (.int (24 : Int32)), .val (.ref q3), .val (.long (((8 : Int64) * (z_q1.toInt64)) - (0 : Int64))), .second, .val (.long (0 : Int64)), .second, .val (.int (24 : Int32)), .val (.int (0 : Int32)), .unset, .unset, .unset] [(.long (0 : Int64)), (.int (8 : Int32))])
  refine own_l2i X33 hx (hb hby d7_60) (pc' := 61) rfl ?_
  show own_Fin _ _ _ _ T33 (mkF m 61 #[.val (.ref q1), .val (.int (24 : Int32)), .val (.ref q3), .val (.long (((8 : Int64) * (z_q1.toInt64)) - (0 : Int64))), .second, .val (.long (0 : Int64)), .second, .val (.int (24 : Int32)), .val (.int (0 : Int32)), .unset, .unset, .unset] [(.int (0 : Int32)), (.int (8 : Int32))])
  refine own_isub X33 hx (hb hby d7_61) (pc' := 62) rfl ?_
  show own_Fin _ _ _ _ T33 (mkF m 62 #[.val (.ref q1), .val (.int (24 : Int32)), .val (.ref q3), .val (.long (((8 : Int64) * (z_q1.toInt64)) - (0 : Int64))), .second, .val (.long (0 : Int64)), .second, .val (.int (24 : Int32)), .val (.int (0 : Int32)), .unset, .unset, .unset] [(.int (8 : Int32))])
  refine own_istore X33 hx (hb hby d7_62) (pc' := 64) rfl (Ls' := #[.val (.ref q1), .val (.int (24 : Int32)), .val (.ref q3), .val (.long (((8 : Int64) * (z_q1.toInt64)) - (0 : Int64))), .second, .val (.long (0 : Int64)), .second, .val (.int (24 : Int32)), .val (.int (0 : Int32)), .val (.int (8 : Int32)), .unset, .unset]) rfl ?_
  refine own_iload X33 hx (hb hby d7_64) (pc' := 66) rfl rfl ?_
  refine own_iload X33 hx (hb hby d7_66) (pc' := 68) rfl rfl ?_
  obtain ⟨_, _, ⟨T34, L34, k34, n34⟩, -, X34, ⟨Lc34, hQ34, l34, y34, z34⟩, st34⟩ := Jvm.LawKit.callS X33 hx (y := (⟨"java/lang/Math", "min", "(II)I"⟩ : MethodName)) hown (mvT hZ (hw _ (List.mem_of_getElem? (i := 52) rfl))) (mvT hZ (hw _ (List.mem_of_getElem? (i := 53) rfl))) (mvT hZ (hw _ (List.mem_of_getElem? (i := 54) rfl))) (mvT hZ (hw _ (List.mem_of_getElem? (i := 55) rfl))) (by decide) (backOf (W := 0) (rm9 l Z a0 hw [] (8 : Int32) (24 : Int32) h0 n0 Z0 ) hZ (hw _ (List.mem_of_getElem? (i := 55) rfl)) (hw _ (List.mem_of_getElem? (i := 54) rfl)) (by decide) (by decide)) (g := (mkF m 68 #[.val (.ref q1), .val (.int (24 : Int32)), .val (.ref q3), .val (.long (((8 : Int64) * (z_q1.toInt64)) - (0 : Int64))), .second, .val (.long (0 : Int64)), .second, .val (.int (24 : Int32)), .val (.int (0 : Int32)), .val (.int (8 : Int32)), .unset, .unset] [(.int (24 : Int32)), (.int (8 : Int32))])) rfl (by rw [hml]; rfl) (argsL := [(.int (8 : Int32)), (.int (24 : Int32))]) (rest := []) (lenOf pd_1 rfl) rfl (by show 2 * 0 + _ ≤ _; exact Nat.le_of_eq rfl) (hb hby d7_68) (fun _ _ => ⟨rfl, e33, (by decide : 0 + 0 ≤ _), (by decide : 0 + 0 ≤ _)⟩)
  dsimp only [Pt.U, Pt.locs, Pt.cells, Pt.slots] at X34 l34 y34 z34 st34 hQ34
  subst l34 y34 z34
  obtain ⟨rfl, N34q, e34'⟩ := hQ34
  have N34 := Fr.app N31 N34q
  refine own_st ?_ st34
  show own_Fin _ _ _ _ T34 (mkF m 71 #[.val (.ref q1), .val (.int (24 : Int32)), .val (.ref q3), .val (.long (((8 : Int64) * (z_q1.toInt64)) - (0 : Int64))), .second, .val (.long (0 : Int64)), .second, .val (.int (24 : Int32)), .val (.int (0 : Int32)), .val (.int (8 : Int32)), .unset, .unset] [(.int (own_f9 (8 : Int32) (24 : Int32)))])
  rw [(by decide : own_f9 (8 : Int32) (24 : Int32) = (8 : Int32))]
  show own_Fin _ _ _ _ T34 (mkF m 71 #[.val (.ref q1), .val (.int (24 : Int32)), .val (.ref q3), .val (.long (((8 : Int64) * (z_q1.toInt64)) - (0 : Int64))), .second, .val (.long (0 : Int64)), .second, .val (.int (24 : Int32)), .val (.int (0 : Int32)), .val (.int (8 : Int32)), .unset, .unset] [(.int (8 : Int32))])
  refine own_istore X34 hx (hb hby d7_71) (pc' := 73) rfl (Ls' := #[.val (.ref q1), .val (.int (24 : Int32)), .val (.ref q3), .val (.long (((8 : Int64) * (z_q1.toInt64)) - (0 : Int64))), .second, .val (.long (0 : Int64)), .second, .val (.int (24 : Int32)), .val (.int (0 : Int32)), .val (.int (8 : Int32)), .val (.int (8 : Int32)), .unset]) rfl ?_
  refine own_aloadN X34 hx (hb hby d7_73) (pc' := 74) rfl rfl rfl ?_
  refine own_getF X34 hx hZ hown (hw _ (List.mem_of_getElem? (i := 11) rfl)) Via.refl e34' F_bytes_q1 (hb hby d7_74) (pc' := 77) rfl (fun T35 X35 e35 => ?_)
  refine own_iload X35 hx (hb hby d7_77) (pc' := 79) rfl rfl ?_
  obtain ⟨cl36, Ar36, qa36, S36, M36, H36, G36⟩ := id A_w_bytes_q1
  have hin36 : ¬ ((0 : Int32) < 0 ∨ cl36.slots.size ≤ ((0 : Int32)).toNatClampNeg) := inb_of S36 ⟨by decide, Int32.lt_of_le_of_lt (by decide) hz⟩
  refine own_st ?_ (fun t k => X35.baloadBytes hx (j := (0 : Int32)) (v := (.int w0_w_bytes_q1)) (by rw [e35]; exact Ar36.1) (State.isArrayOf_alike hZ.alike Ar36.2.1) Ar36.2.2 hin36 (Has.at H36 hin36 rfl) (g := (mkF m 79 #[.val (.ref q1), .val (.int (24 : Int32)), .val (.ref q3), .val (.long (((8 : Int64) * (z_q1.toInt64)) - (0 : Int64))), .second, .val (.long (0 : Int64)), .second, .val (.int (24 : Int32)), .val (.int (0 : Int32)), .val (.int (8 : Int32)), .val (.int (8 : Int32)), .unset] [(.int (0 : Int32)), (.ref w_bytes_q1)])) rfl rfl (hb hby d7_79) t k)
  show own_Fin _ _ _ _ T35 (mkF m 80 #[.val (.ref q1), .val (.int (24 : Int32)), .val (.ref q3), .val (.long (((8 : Int64) * (z_q1.toInt64)) - (0 : Int64))), .second, .val (.long (0 : Int64)), .second, .val (.int (24 : Int32)), .val (.int (0 : Int32)), .val (.int (8 : Int32)), .val (.int (8 : Int32)), .unset] [(.int w0_w_bytes_q1)])
  refine own_sipush X35 hx (hb hby d7_80) (pc' := 83) rfl (v := (255 : Int32)) rfl ?_
  refine own_iand X35 hx (hb hby d7_83) (pc' := 84) rfl ?_
  refine own_iload X35 hx (hb hby d7_84) (pc' := 86) rfl rfl ?_
  refine own_iload X35 hx (hb hby d7_86) (pc' := 88) rfl rfl ?_
  refine own_isub X35 hx (hb hby d7_88) (pc' := 89) rfl ?_
  show own_Fin _ _ _ _ T35 (mkF m 89 #[.val (.ref q1), .val (.int (24 : Int32)), .val (.ref q3), .val (.long (((8 : Int64) * (z_q1.toInt64)) - (0 : Int64))), .second, .val (.long (0 : Int64)), .second, .val (.int (24 : Int32)), .val (.int (0 : Int32)), .val (.int (8 : Int32)), .val (.int (8 : Int32)), .unset] [(.int (0 : Int32)), (.int (w0_w_bytes_q1 &&& (255 : Int32)))])
  refine own_iushr X35 hx (hb hby d7_89) (pc' := 90) rfl ?_
  refine own_iconst X35 hx (hb hby d7_90) (pc' := 91) rfl (v := (1 : Int32)) rfl ?_
  refine own_iload X35 hx (hb hby d7_91) (pc' := 93) rfl rfl ?_
  refine own_ishl X35 hx (hb hby d7_93) (pc' := 94) rfl ?_
  show own_Fin _ _ _ _ T35 (mkF m 94 #[.val (.ref q1), .val (.int (24 : Int32)), .val (.ref q3), .val (.long (((8 : Int64) * (z_q1.toInt64)) - (0 : Int64))), .second, .val (.long (0 : Int64)), .second, .val (.int (24 : Int32)), .val (.int (0 : Int32)), .val (.int (8 : Int32)), .val (.int (8 : Int32)), .unset] [(.int (256 : Int32)), (.int (own_ush32 (w0_w_bytes_q1 &&& (255 : Int32)) (0 : Int32)))])
  refine own_iconst X35 hx (hb hby d7_94) (pc' := 95) rfl (v := (1 : Int32)) rfl ?_
  refine own_isub X35 hx (hb hby d7_95) (pc' := 96) rfl ?_
  show own_Fin _ _ _ _ T35 (mkF m 96 #[.val (.ref q1), .val (.int (24 : Int32)), .val (.ref q3), .val (.long (((8 : Int64) * (z_q1.toInt64)) - (0 : Int64))), .second, .val (.long (0 : Int64)), .second, .val (.int (24 : Int32)), .val (.int (0 : Int32)), .val (.int (8 : Int32)), .val (.int (8 : Int32)), .unset] [(.int (255 : Int32)), (.int (own_ush32 (w0_w_bytes_q1 &&& (255 : Int32)) (0 : Int32)))])
  refine own_iand X35 hx (hb hby d7_96) (pc' := 97) rfl ?_
  refine own_istore X35 hx (hb hby d7_97) (pc' := 99) rfl (Ls' := #[.val (.ref q1), .val (.int (24 : Int32)), .val (.ref q3), .val (.long (((8 : Int64) * (z_q1.toInt64)) - (0 : Int64))), .second, .val (.long (0 : Int64)), .second, .val (.int (24 : Int32)), .val (.int (0 : Int32)), .val (.int (8 : Int32)), .val (.int (8 : Int32)), .val (.int ((own_ush32 (w0_w_bytes_q1 &&& (255 : Int32)) (0 : Int32)) &&& (255 : Int32)))]) rfl ?_
  refine own_lload X35 hx (hb hby d7_99) (pc' := 101) rfl rfl ?_
  refine own_iload X35 hx (hb hby d7_101) (pc' := 103) rfl rfl ?_
  refine own_lshl X35 hx (hb hby d7_103) (pc' := 104) rfl ?_
  show own_Fin _ _ _ _ T35 (mkF m 104 #[.val (.ref q1), .val (.int (24 : Int32)), .val (.ref q3), .val (.long (((8 : Int64) * (z_q1.toInt64)) - (0 : Int64))), .second, .val (.long (0 : Int64)), .second, .val (.int (24 : Int32)), .val (.int (0 : Int32)), .val (.int (8 : Int32)), .val (.int (8 : Int32)), .val (.int ((own_ush32 (w0_w_bytes_q1 &&& (255 : Int32)) (0 : Int32)) &&& (255 : Int32)))] [(.long (0 : Int64))])
  refine own_iload X35 hx (hb hby d7_104) (pc' := 106) rfl rfl ?_
  refine own_i2l X35 hx (hb hby d7_106) (pc' := 107) rfl ?_
  refine own_lor X35 hx (hb hby d7_107) (pc' := 108) rfl ?_
  refine own_lstore X35 hx (hb hby d7_108) (pc' := 110) rfl (Ls' := #[.val (.ref q1), .val (.int (24 : Int32)), .val (.ref q3), .val (.long (((8 : Int64) * (z_q1.toInt64)) - (0 : Int64))), .second, .val (.long ((0 : Int64) ||| (((own_ush32 (w0_w_bytes_q1 &&& (255 : Int32)) (0 : Int32)) &&& (255 : Int32)).toInt64))), .second, .val (.int (24 : Int32)), .val (.int (0 : Int32)), .val (.int (8 : Int32)), .val (.int (8 : Int32)), .val (.int ((own_ush32 (w0_w_bytes_q1 &&& (255 : Int32)) (0 : Int32)) &&& (255 : Int32)))]) rfl ?_
  refine own_aloadN X35 hx (hb hby d7_110) (pc' := 111) rfl rfl rfl ?_
  refine own_dup X35 hx (hb hby d7_111) (pc' := 112) rfl rfl ?_
  refine own_getF X35 hx hZ hown (hw _ (List.mem_of_getElem? (i := 18) rfl)) Via.refl e35 F_position_q1 (hb hby d7_112) (pc' := 115) rfl (fun T37 X37 e37 => ?_)
  refine own_iload X37 hx (hb hby d7_115) (pc' := 117) rfl rfl ?_
  refine own_i2l X37 hx (hb hby d7_117) (pc' := 118) rfl ?_
  show own_Fin _ _ _ _ T37 (mkF m 118 #[.val (.ref q1), .val (.int (24 : Int32)), .val (.ref q3), .val (.long (((8 : Int64) * (z_q1.toInt64)) - (0 : Int64))), .second, .val (.long ((0 : Int64) ||| (((own_ush32 (w0_w_bytes_q1 &&& (255 : Int32)) (0 : Int32)) &&& (255 : Int32)).toInt64))), .second, .val (.int (24 : Int32)), .val (.int (0 : Int32)), .val (.int (8 : Int32)), .val (.int (8 : Int32)), .val (.int ((own_ush32 (w0_w_bytes_q1 &&& (255 : Int32)) (0 : Int32)) &&& (255 : Int32)))] [(.long (8 : Int64)), (.long (0 : Int64)), (.ref q1)])
  refine own_ladd X37 hx (hb hby d7_118) (pc' := 119) rfl ?_
  show own_Fin _ _ _ _ T37 (mkF m 119 #[.val (.ref q1), .val (.int (24 : Int32)), .val (.ref q3), .val (.long (((8 : Int64) * (z_q1.toInt64)) - (0 : Int64))), .second, .val (.long ((0 : Int64) ||| (((own_ush32 (w0_w_bytes_q1 &&& (255 : Int32)) (0 : Int32)) &&& (255 : Int32)).toInt64))), .second, .val (.int (24 : Int32)), .val (.int (0 : Int32)), .val (.int (8 : Int32)), .val (.int (8 : Int32)), .val (.int ((own_ush32 (w0_w_bytes_q1 &&& (255 : Int32)) (0 : Int32)) &&& (255 : Int32)))] [(.long (8 : Int64)), (.ref q1)])
  obtain ⟨T38, h38, X38, e38, W38, st38⟩ := putF X37 hx hZ hown (host := "") (Or.inl (hw _ (List.mem_of_getElem? (i := 18) rfl))) Via.refl e37 F_position_q1 E_q1 (Or.inl (hw _ (List.mem_of_getElem? (i := 19) rfl))) (hw _ (List.mem_of_getElem? (i := 3) rfl)) (ty := .long) (by decide) rfl rfl (g := (mkF m 119 #[.val (.ref q1), .val (.int (24 : Int32)), .val (.ref q3), .val (.long (((8 : Int64) * (z_q1.toInt64)) - (0 : Int64))), .second, .val (.long ((0 : Int64) ||| (((own_ush32 (w0_w_bytes_q1 &&& (255 : Int32)) (0 : Int32)) &&& (255 : Int32)).toInt64))), .second, .val (.int (24 : Int32)), .val (.int (0 : Int32)), .val (.int (8 : Int32)), .val (.int (8 : Int32)), .val (.int ((own_ush32 (w0_w_bytes_q1 &&& (255 : Int32)) (0 : Int32)) &&& (255 : Int32)))] [(.long (8 : Int64)), (.ref q1)])) rfl rfl (hb hby d7_119)
  have E_q1_38 : Exa Z h38 q1 "com/example/typewire/typewire/packet/BitInput" := E_q1.wr W38
  have F_q1_bytes_38 : Fld Z h38 q1 "com/example/typewire/typewire/packet/BitInput" "bytes" "[B" (.ref w_bytes_q1) := F_bytes_q1.other W38 (Or.inr (slot_ne (Or.inr (hw _ (List.mem_of_getElem? (i := 12) rfl))) (Or.inl (hw _ (List.mem_of_getElem? (i := 19) rfl))) (by decide) (t := (.array .byte)) (t' := .long) (by decide) (by decide)))
  have F_q1_position_38 : Fld Z h38 q1 "com/example/typewire/typewire/packet/BitInput" "position" "J" (.long (8 : Int64)) := F_position_q1.same W38
  have A_w_bytes_q1_38 : Arv Z h38 w_bytes_q1 kc_w_bytes_q1 .byte z_q1 [(.int w0_w_bytes_q1), (.int w1_w_bytes_q1), (.int w2_w_bytes_q1), (.int w3_w_bytes_q1)] (.int (0 : Int32)) := A_w_bytes_q1.other W38 (Ne.symm ne_q1_w_bytes_q1)
  have N38 := Fr.snoc X38 N34 g_q1
  have sz38 : n0 ≤ h38.size := Nat.le_trans Z0 (Keep.of_wr W38).1
  have K38 : Keep h0 h38 [q1, w_bytes_q1] := K0.wr W38 (Or.inl (List.mem_of_getElem? (i := 0) rfl))
  refine own_st ?_ st38
  show own_Fin _ _ _ _ T38 (mkF m 122 #[.val (.ref q1), .val (.int (24 : Int32)), .val (.ref q3), .val (.long (((8 : Int64) * (z_q1.toInt64)) - (0 : Int64))), .second, .val (.long ((0 : Int64) ||| (((own_ush32 (w0_w_bytes_q1 &&& (255 : Int32)) (0 : Int32)) &&& (255 : Int32)).toInt64))), .second, .val (.int (24 : Int32)), .val (.int (0 : Int32)), .val (.int (8 : Int32)), .val (.int (8 : Int32)), .val (.int ((own_ush32 (w0_w_bytes_q1 &&& (255 : Int32)) (0 : Int32)) &&& (255 : Int32)))] [])
  refine own_iload X38 hx (hb hby d7_122) (pc' := 124) rfl rfl ?_
  refine own_iload X38 hx (hb hby d7_124) (pc' := 126) rfl rfl ?_
  refine own_isub X38 hx (hb hby d7_126) (pc' := 127) rfl ?_
  show own_Fin _ _ _ _ T38 (mkF m 127 #[.val (.ref q1), .val (.int (24 : Int32)), .val (.ref q3), .val (.long (((8 : Int64) * (z_q1.toInt64)) - (0 : Int64))), .second, .val (.long ((0 : Int64) ||| (((own_ush32 (w0_w_bytes_q1 &&& (255 : Int32)) (0 : Int32)) &&& (255 : Int32)).toInt64))), .second, .val (.int (24 : Int32)), .val (.int (0 : Int32)), .val (.int (8 : Int32)), .val (.int (8 : Int32)), .val (.int ((own_ush32 (w0_w_bytes_q1 &&& (255 : Int32)) (0 : Int32)) &&& (255 : Int32)))] [(.int (16 : Int32))])
  refine own_istore X38 hx (hb hby d7_127) (pc' := 129) rfl (Ls' := #[.val (.ref q1), .val (.int (24 : Int32)), .val (.ref q3), .val (.long (((8 : Int64) * (z_q1.toInt64)) - (0 : Int64))), .second, .val (.long ((0 : Int64) ||| (((own_ush32 (w0_w_bytes_q1 &&& (255 : Int32)) (0 : Int32)) &&& (255 : Int32)).toInt64))), .second, .val (.int (16 : Int32)), .val (.int (0 : Int32)), .val (.int (8 : Int32)), .val (.int (8 : Int32)), .val (.int ((own_ush32 (w0_w_bytes_q1 &&& (255 : Int32)) (0 : Int32)) &&& (255 : Int32)))]) rfl ?_
  refine own_goto X38 hx (hb hby d7_129) (pc' := 34) (by decide) (by decide) ?_
  refine own_iload X38 hx (hb hby d7_34) (pc' := 36) rfl rfl ?_
  refine own_ifNo X38 hx (hb hby d7_36) (pc' := 39) rfl ((if0 _ _).trans (tlt (by decide : (0 : Int32) < (16 : Int32))).2.2.2) ?_
  refine own_aloadN X38 hx (hb hby d7_39) (pc' := 40) rfl rfl rfl ?_
  refine own_getF X38 hx hZ hown (hw _ (List.mem_of_getElem? (i := 18) rfl)) Via.refl e38 F_q1_position_38 (hb hby d7_40) (pc' := 43) rfl (fun T39 X39 e39 => ?_)
  refine own_ldc2Long X39 hx hZ hown (hw _ (List.mem_of_getElem? (i := 20) rfl)) (hb hby d7_43) (pc' := 46) rfl ?_
  refine own_ldiv X39 hx (hb hby d7_46) (pc' := 47) rfl (by decide) ?_
  show own_Fin _ _ _ _ T39 (mkF m 47 #[.val (.ref q1), .val (.int (24 : Int32)), .val (.ref q3), .val (.long (((8 : Int64) * (z_q1.toInt64)) - (0 : Int64))), .second, .val (.long ((0 : Int64) ||| (((own_ush32 (w0_w_bytes_q1 &&& (255 : Int32)) (0 : Int32)) &&& (255 : Int32)).toInt64))), .second, .val (.int (16 : Int32)), .val (.int (0 : Int32)), .val (.int (8 : Int32)), .val (.int (8 : Int32)), .val (.int ((own_ush32 (w0_w_bytes_q1 &&& (255 : Int32)) (0 : Int32)) &&& (255 : Int32)))] [(.long (1 : Int64))])
  refine own_l2i X39 hx (hb hby d7_47) (pc' := 48) rfl ?_
  show own_Fin _ _ _ _ T39 (mkF m 48 #[.val (.ref q1), .val (.int (24 : Int32)), .val (.ref q3), .val (.long (((8 : Int64) * (z_q1.toInt64)) - (0 : Int64))), .second, .val (.long ((0 : Int64) ||| (((own_ush32 (w0_w_bytes_q1 &&& (255 : Int32)) (0 : Int32)) &&& (255 : Int32)).toInt64))), .second, .val (.int (16 : Int32)), .val (.int (0 : Int32)), .val (.int (8 : Int32)), .val (.int (8 : Int32)), .val (.int ((own_ush32 (w0_w_bytes_q1 &&& (255 : Int32)) (0 : Int32)) &&& (255 : Int32)))] [(.int (1 : Int32))])
  refine own_istore X39 hx (hb hby d7_48) (pc' := 50) rfl (Ls' := #[.val (.ref q1), .val (.int (24 : Int32)), .val (.ref q3), .val (.long (((8 : Int64) * (z_q1.toInt64)) - (0 : Int64))), .second, .val (.long ((0 : Int64) ||| (((own_ush32 (w0_w_bytes_q1 &&& (255 : Int32)) (0 : Int32)) &&& (255 : Int32)).toInt64))), .second, .val (.int (16 : Int32)), .val (.int (1 : Int32)), .val (.int (8 : Int32)), .val (.int (8 : Int32)), .val (.int ((own_ush32 (w0_w_bytes_q1 &&& (255 : Int32)) (0 : Int32)) &&& (255 : Int32)))]) rfl ?_
  refine own_bipush X39 hx (hb hby d7_50) (pc' := 52) rfl (v := (8 : Int32)) rfl ?_
  refine own_aloadN X39 hx (hb hby d7_52) (pc' := 53) rfl rfl rfl ?_
  refine own_getF X39 hx hZ hown (hw _ (List.mem_of_getElem? (i := 18) rfl)) Via.refl e39 F_q1_position_38 (hb hby d7_53) (pc' := 56) rfl (fun T40 X40 e40 => ?_)
  refine own_ldc2Long X40 hx hZ hown (hw _ (List.mem_of_getElem? (i := 20) rfl)) (hb hby d7_56) (pc' := 59) rfl ?_
  refine own_lrem X40 hx (hb hby d7_59) (pc' := 60) rfl (by decide) ?_
  show own_Fin _ _ _ _ T40 (mkF m 60 #[.val (.ref q1), .val (.int (24 : Int32)), .val (.ref q3), .val (.long (((8 : Int64) * (z_q1.toInt64)) - (0 : Int64))), .second, .val (.long ((0 : Int64) ||| (((own_ush32 (w0_w_bytes_q1 &&& (255 : Int32)) (0 : Int32)) &&& (255 : Int32)).toInt64))), .second, .val (.int (16 : Int32)), .val (.int (1 : Int32)), .val (.int (8 : Int32)), .val (.int (8 : Int32)), .val (.int ((own_ush32 (w0_w_bytes_q1 &&& (255 : Int32)) (0 : Int32)) &&& (255 : Int32)))] [(.long (0 : Int64)), (.int (8 : Int32))])
  refine own_l2i X40 hx (hb hby d7_60) (pc' := 61) rfl ?_
  show own_Fin _ _ _ _ T40 (mkF m 61 #[.val (.ref q1), .val (.int (24 : Int32)), .val (.ref q3), .val (.long (((8 : Int64) * (z_q1.toInt64)) - (0 : Int64))), .second, .val (.long ((0 : Int64) ||| (((own_ush32 (w0_w_bytes_q1 &&& (255 : Int32)) (0 : Int32)) &&& (255 : Int32)).toInt64))), .second, .val (.int (16 : Int32)), .val (.int (1 : Int32)), .val (.int (8 : Int32)), .val (.int (8 : Int32)), .val (.int ((own_ush32 (w0_w_bytes_q1 &&& (255 : Int32)) (0 : Int32)) &&& (255 : Int32)))] [(.int (0 : Int32)), (.int (8 : Int32))])
  refine own_isub X40 hx (hb hby d7_61) (pc' := 62) rfl ?_
  show own_Fin _ _ _ _ T40 (mkF m 62 #[.val (.ref q1), .val (.int (24 : Int32)), .val (.ref q3), .val (.long (((8 : Int64) * (z_q1.toInt64)) - (0 : Int64))), .second, .val (.long ((0 : Int64) ||| (((own_ush32 (w0_w_bytes_q1 &&& (255 : Int32)) (0 : Int32)) &&& (255 : Int32)).toInt64))), .second, .val (.int (16 : Int32)), .val (.int (1 : Int32)), .val (.int (8 : Int32)), .val (.int (8 : Int32)), .val (.int ((own_ush32 (w0_w_bytes_q1 &&& (255 : Int32)) (0 : Int32)) &&& (255 : Int32)))] [(.int (8 : Int32))])
  refine own_istore X40 hx (hb hby d7_62) (pc' := 64) rfl (Ls' := #[.val (.ref q1), .val (.int (24 : Int32)), .val (.ref q3), .val (.long (((8 : Int64) * (z_q1.toInt64)) - (0 : Int64))), .second, .val (.long ((0 : Int64) ||| (((own_ush32 (w0_w_bytes_q1 &&& (255 : Int32)) (0 : Int32)) &&& (255 : Int32)).toInt64))), .second, .val (.int (16 : Int32)), .val (.int (1 : Int32)), .val (.int (8 : Int32)), .val (.int (8 : Int32)), .val (.int ((own_ush32 (w0_w_bytes_q1 &&& (255 : Int32)) (0 : Int32)) &&& (255 : Int32)))]) rfl ?_
  refine own_iload X40 hx (hb hby d7_64) (pc' := 66) rfl rfl ?_
  refine own_iload X40 hx (hb hby d7_66) (pc' := 68) rfl rfl ?_
  obtain ⟨_, _, ⟨T41, L41, k41, n41⟩, -, X41, ⟨Lc41, hQ41, l41, y41, z41⟩, st41⟩ := Jvm.LawKit.callS X40 hx (y := (⟨"java/lang/Math", "min", "(II)I"⟩ : MethodName)) hown (mvT hZ (hw _ (List.mem_of_getElem? (i := 52) rfl))) (mvT hZ (hw _ (List.mem_of_getElem? (i := 53) rfl))) (mvT hZ (hw _ (List.mem_of_getElem? (i := 54) rfl))) (mvT hZ (hw _ (List.mem_of_getElem? (i := 55) rfl))) (by decide) (backOf (W := 0) (rm9 l Z a0 hw [] (8 : Int32) (16 : Int32) h38 n0 sz38 ) hZ (hw _ (List.mem_of_getElem? (i := 55) rfl)) (hw _ (List.mem_of_getElem? (i := 54) rfl)) (by decide) (by decide)) (g := (mkF m 68 #[.val (.ref q1), .val (.int (24 : Int32)), .val (.ref q3), .val (.long (((8 : Int64) * (z_q1.toInt64)) - (0 : Int64))), .second, .val (.long ((0 : Int64) ||| (((own_ush32 (w0_w_bytes_q1 &&& (255 : Int32)) (0 : Int32)) &&& (255 : Int32)).toInt64))), .second, .val (.int (16 : Int32)), .val (.int (1 : Int32)), .val (.int (8 : Int32)), .val (.int (8 : Int32)), .val (.int ((own_ush32 (w0_w_bytes_q1 &&& (255 : Int32)) (0 : Int32)) &&& (255 : Int32)))] [(.int (16 : Int32)), (.int (8 : Int32))])) rfl (by rw [hml]; rfl) (argsL := [(.int (8 : Int32)), (.int (16 : Int32))]) (rest := []) (lenOf pd_1 rfl) rfl (by show 2 * 0 + _ ≤ _; exact Nat.le_of_eq rfl) (hb hby d7_68) (fun _ _ => ⟨rfl, e40, (by decide : 0 + 0 ≤ _), (by decide : 0 + 0 ≤ _)⟩)
  dsimp only [Pt.U, Pt.locs, Pt.cells, Pt.slots] at X41 l41 y41 z41 st41 hQ41
  subst l41 y41 z41
  obtain ⟨rfl, N41q, e41'⟩ := hQ41
  have N41 := Fr.app N38 N41q
  refine own_st ?_ st41
  show own_Fin _ _ _ _ T41 (mkF m 71 #[.val (.ref q1), .val (.int (24 : Int32)), .val (.ref q3), .val (.long (((8 : Int64) * (z_q1.toInt64)) - (0 : Int64))), .second, .val (.long ((0 : Int64) ||| (((own_ush32 (w0_w_bytes_q1 &&& (255 : Int32)) (0 : Int32)) &&& (255 : Int32)).toInt64))), .second, .val (.int (16 : Int32)), .val (.int (1 : Int32)), .val (.int (8 : Int32)), .val (.int (8 : Int32)), .val (.int ((own_ush32 (w0_w_bytes_q1 &&& (255 : Int32)) (0 : Int32)) &&& (255 : Int32)))] [(.int (own_f9 (8 : Int32) (16 : Int32)))])
  rw [(by decide : own_f9 (8 : Int32) (16 : Int32) = (8 : Int32))]
  show own_Fin _ _ _ _ T41 (mkF m 71 #[.val (.ref q1), .val (.int (24 : Int32)), .val (.ref q3), .val (.long (((8 : Int64) * (z_q1.toInt64)) - (0 : Int64))), .second, .val (.long ((0 : Int64) ||| (((own_ush32 (w0_w_bytes_q1 &&& (255 : Int32)) (0 : Int32)) &&& (255 : Int32)).toInt64))), .second, .val (.int (16 : Int32)), .val (.int (1 : Int32)), .val (.int (8 : Int32)), .val (.int (8 : Int32)), .val (.int ((own_ush32 (w0_w_bytes_q1 &&& (255 : Int32)) (0 : Int32)) &&& (255 : Int32)))] [(.int (8 : Int32))])
  refine own_istore X41 hx (hb hby d7_71) (pc' := 73) rfl (Ls' := #[.val (.ref q1), .val (.int (24 : Int32)), .val (.ref q3), .val (.long (((8 : Int64) * (z_q1.toInt64)) - (0 : Int64))), .second, .val (.long ((0 : Int64) ||| (((own_ush32 (w0_w_bytes_q1 &&& (255 : Int32)) (0 : Int32)) &&& (255 : Int32)).toInt64))), .second, .val (.int (16 : Int32)), .val (.int (1 : Int32)), .val (.int (8 : Int32)), .val (.int (8 : Int32)), .val (.int ((own_ush32 (w0_w_bytes_q1 &&& (255 : Int32)) (0 : Int32)) &&& (255 : Int32)))]) rfl ?_
  refine own_aloadN X41 hx (hb hby d7_73) (pc' := 74) rfl rfl rfl ?_
  refine own_getF X41 hx hZ hown (hw _ (List.mem_of_getElem? (i := 11) rfl)) Via.refl e41' F_q1_bytes_38 (hb hby d7_74) (pc' := 77) rfl (fun T42 X42 e42 => ?_)
  refine own_iload X42 hx (hb hby d7_77) (pc' := 79) rfl rfl ?_
  obtain ⟨cl43, Ar43, qa43, S43, M43, H43, G43⟩ := id A_w_bytes_q1_38
  have hin43 : ¬ ((1 : Int32) < 0 ∨ cl43.slots.size ≤ ((1 : Int32)).toNatClampNeg) := inb_of S43 ⟨by decide, Int32.lt_of_le_of_lt (by decide) hz⟩
  refine own_st ?_ (fun t k => X42.baloadBytes hx (j := (1 : Int32)) (v := (.int w1_w_bytes_q1)) (by rw [e42]; exact Ar43.1) (State.isArrayOf_alike hZ.alike Ar43.2.1) Ar43.2.2 hin43 (Has.at H43 hin43 rfl) (g := (mkF m 79 #[.val (.ref q1), .val (.int (24 : Int32)), .val (.ref q3), .val (.long (((8 : Int64) * (z_q1.toInt64)) - (0 : Int64))), .second, .val (.long ((0 : Int64) ||| (((own_ush32 (w0_w_bytes_q1 &&& (255 : Int32)) (0 : Int32)) &&& (255 : Int32)).toInt64))), .second, .val (.int (16 : Int32)), .val (.int (1 : Int32)), .val (.int (8 : Int32)), .val (.int (8 : Int32)), .val (.int ((own_ush32 (w0_w_bytes_q1 &&& (255 : Int32)) (0 : Int32)) &&& (255 : Int32)))] [(.int (1 : Int32)), (.ref w_bytes_q1)])) rfl rfl (hb hby d7_79) t k)
  show own_Fin _ _ _ _ T42 (mkF m 80 #[.val (.ref q1), .val (.int (24 : Int32)), .val (.ref q3), .val (.long (((8 : Int64) * (z_q1.toInt64)) - (0 : Int64))), .second, .val (.long ((0 : Int64) ||| (((own_ush32 (w0_w_bytes_q1 &&& (255 : Int32)) (0 : Int32)) &&& (255 : Int32)).toInt64))), .second, .val (.int (16 : Int32)), .val (.int (1 : Int32)), .val (.int (8 : Int32)), .val (.int (8 : Int32)), .val (.int ((own_ush32 (w0_w_bytes_q1 &&& (255 : Int32)) (0 : Int32)) &&& (255 : Int32)))] [(.int w1_w_bytes_q1)])
  refine own_sipush X42 hx (hb hby d7_80) (pc' := 83) rfl (v := (255 : Int32)) rfl ?_
  refine own_iand X42 hx (hb hby d7_83) (pc' := 84) rfl ?_
  refine own_iload X42 hx (hb hby d7_84) (pc' := 86) rfl rfl ?_
  refine own_iload X42 hx (hb hby d7_86) (pc' := 88) rfl rfl ?_
  refine own_isub X42 hx (hb hby d7_88) (pc' := 89) rfl ?_
  show own_Fin _ _ _ _ T42 (mkF m 89 #[.val (.ref q1), .val (.int (24 : Int32)), .val (.ref q3), .val (.long (((8 : Int64) * (z_q1.toInt64)) - (0 : Int64))), .second, .val (.long ((0 : Int64) ||| (((own_ush32 (w0_w_bytes_q1 &&& (255 : Int32)) (0 : Int32)) &&& (255 : Int32)).toInt64))), .second, .val (.int (16 : Int32)), .val (.int (1 : Int32)), .val (.int (8 : Int32)), .val (.int (8 : Int32)), .val (.int ((own_ush32 (w0_w_bytes_q1 &&& (255 : Int32)) (0 : Int32)) &&& (255 : Int32)))] [(.int (0 : Int32)), (.int (w1_w_bytes_q1 &&& (255 : Int32)))])
  refine own_iushr X42 hx (hb hby d7_89) (pc' := 90) rfl ?_
  refine own_iconst X42 hx (hb hby d7_90) (pc' := 91) rfl (v := (1 : Int32)) rfl ?_
  refine own_iload X42 hx (hb hby d7_91) (pc' := 93) rfl rfl ?_
  refine own_ishl X42 hx (hb hby d7_93) (pc' := 94) rfl ?_
  show own_Fin _ _ _ _ T42 (mkF m 94 #[.val (.ref q1), .val (.int (24 : Int32)), .val (.ref q3), .val (.long (((8 : Int64) * (z_q1.toInt64)) - (0 : Int64))), .second, .val (.long ((0 : Int64) ||| (((own_ush32 (w0_w_bytes_q1 &&& (255 : Int32)) (0 : Int32)) &&& (255 : Int32)).toInt64))), .second, .val (.int (16 : Int32)), .val (.int (1 : Int32)), .val (.int (8 : Int32)), .val (.int (8 : Int32)), .val (.int ((own_ush32 (w0_w_bytes_q1 &&& (255 : Int32)) (0 : Int32)) &&& (255 : Int32)))] [(.int (256 : Int32)), (.int (own_ush32 (w1_w_bytes_q1 &&& (255 : Int32)) (0 : Int32)))])
  refine own_iconst X42 hx (hb hby d7_94) (pc' := 95) rfl (v := (1 : Int32)) rfl ?_
  refine own_isub X42 hx (hb hby d7_95) (pc' := 96) rfl ?_
  show own_Fin _ _ _ _ T42 (mkF m 96 #[.val (.ref q1), .val (.int (24 : Int32)), .val (.ref q3), .val (.long (((8 : Int64) * (z_q1.toInt64)) - (0 : Int64))), .second, .val (.long ((0 : Int64) ||| (((own_ush32 (w0_w_bytes_q1 &&& (255 : Int32)) (0 : Int32)) &&& (255 : Int32)).toInt64))), .second, .val (.int (16 : Int32)), .val (.int (1 : Int32)), .val (.int (8 : Int32)), .val (.int (8 : Int32)), .val (.int ((own_ush32 (w0_w_bytes_q1 &&& (255 : Int32)) (0 : Int32)) &&& (255 : Int32)))] [(.int (255 : Int32)), (.int (own_ush32 (w1_w_bytes_q1 &&& (255 : Int32)) (0 : Int32)))])
  refine own_iand X42 hx (hb hby d7_96) (pc' := 97) rfl ?_
  refine own_istore X42 hx (hb hby d7_97) (pc' := 99) rfl (Ls' := #[.val (.ref q1), .val (.int (24 : Int32)), .val (.ref q3), .val (.long (((8 : Int64) * (z_q1.toInt64)) - (0 : Int64))), .second, .val (.long ((0 : Int64) ||| (((own_ush32 (w0_w_bytes_q1 &&& (255 : Int32)) (0 : Int32)) &&& (255 : Int32)).toInt64))), .second, .val (.int (16 : Int32)), .val (.int (1 : Int32)), .val (.int (8 : Int32)), .val (.int (8 : Int32)), .val (.int ((own_ush32 (w1_w_bytes_q1 &&& (255 : Int32)) (0 : Int32)) &&& (255 : Int32)))]) rfl ?_
  refine own_lload X42 hx (hb hby d7_99) (pc' := 101) rfl rfl ?_
  refine own_iload X42 hx (hb hby d7_101) (pc' := 103) rfl rfl ?_
  refine own_lshl X42 hx (hb hby d7_103) (pc' := 104) rfl ?_
  refine own_iload X42 hx (hb hby d7_104) (pc' := 106) rfl rfl ?_
  refine own_i2l X42 hx (hb hby d7_106) (pc' := 107) rfl ?_
  refine own_lor X42 hx (hb hby d7_107) (pc' := 108) rfl ?_
  refine own_lstore X42 hx (hb hby d7_108) (pc' := 110) rfl (Ls' := #[.val (.ref q1), .val (.int (24 : Int32)), .val (.ref q3), .val (.long (((8 : Int64) * (z_q1.toInt64)) - (0 : Int64))), .second, .val (.long ((((0 : Int64) ||| (((own_ush32 (w0_w_bytes_q1 &&& (255 : Int32)) (0 : Int32)) &&& (255 : Int32)).toInt64)) <<< ((8 : Int32) &&& 63).toInt64) ||| (((own_ush32 (w1_w_bytes_q1 &&& (255 : Int32)) (0 : Int32)) &&& (255 : Int32)).toInt64))), .second, .val (.int (16 : Int32)), .val (.int (1 : Int32)), .val (.int (8 : Int32)), .val (.int (8 : Int32)), .val (.int ((own_ush32 (w1_w_bytes_q1 &&& (255 : Int32)) (0 : Int32)) &&& (255 : Int32)))]) rfl ?_
  refine own_aloadN X42 hx (hb hby d7_110) (pc' := 111) rfl rfl rfl ?_
  refine own_dup X42 hx (hb hby d7_111) (pc' := 112) rfl rfl ?_
  refine own_getF X42 hx hZ hown (hw _ (List.mem_of_getElem? (i := 18) rfl)) Via.refl e42 F_q1_position_38 (hb hby d7_112) (pc' := 115) rfl (fun T44 X44 e44 => ?_)
  refine own_iload X44 hx (hb hby d7_115) (pc' := 117) rfl rfl ?_
  refine own_i2l X44 hx (hb hby d7_117) (pc' := 118) rfl ?_
  show own_Fin _ _ _ _ T44 (mkF m 118 #[.val (.ref q1), .val (.int (24 : Int32)), .val (.ref q3), .val (.long (((8 : Int64) * (z_q1.toInt64)) - (0 : Int64))), .second, .val (.long ((((0 : Int64) ||| (((own_ush32 (w0_w_bytes_q1 &&& (255 : Int32)) (0 : Int32)) &&& (255 : Int32)).toInt64)) <<< ((8 : Int32) &&& 63).toInt64) ||| (((own_ush32 (w1_w_bytes_q1 &&& (255 : Int32)) (0 : Int32)) &&& (255 : Int32)).toInt64))), .second, .val (.int (16 : Int32)), .val (.int (1 : Int32)), .val (.int (8 : Int32)), .val (.int (8 : Int32)), .val (.int ((own_ush32 (w1_w_bytes_q1 &&& (255 : Int32)) (0 : Int32)) &&& (255 : Int32)))] [(.long (8 : Int64)), (.long (8 : Int64)), (.ref q1)])
  refine own_ladd X44 hx (hb hby d7_118) (pc' := 119) rfl ?_
  show own_Fin _ _ _ _ T44 (mkF m 119 #[.val (.ref q1), .val (.int (24 : Int32)), .val (.ref q3), .val (.long (((8 : Int64) * (z_q1.toInt64)) - (0 : Int64))), .second, .val (.long ((((0 : Int64) ||| (((own_ush32 (w0_w_bytes_q1 &&& (255 : Int32)) (0 : Int32)) &&& (255 : Int32)).toInt64)) <<< ((8 : Int32) &&& 63).toInt64) ||| (((own_ush32 (w1_w_bytes_q1 &&& (255 : Int32)) (0 : Int32)) &&& (255 : Int32)).toInt64))), .second, .val (.int (16 : Int32)), .val (.int (1 : Int32)), .val (.int (8 : Int32)), .val (.int (8 : Int32)), .val (.int ((own_ush32 (w1_w_bytes_q1 &&& (255 : Int32)) (0 : Int32)) &&& (255 : Int32)))] [(.long (16 : Int64)), (.ref q1)])
  obtain ⟨T45, h45, X45, e45, W45, st45⟩ := putF X44 hx hZ hown (host := "") (Or.inl (hw _ (List.mem_of_getElem? (i := 18) rfl))) Via.refl e44 F_q1_position_38 E_q1_38 (Or.inl (hw _ (List.mem_of_getElem? (i := 19) rfl))) (hw _ (List.mem_of_getElem? (i := 3) rfl)) (ty := .long) (by decide) rfl rfl (g := (mkF m 119 #[.val (.ref q1), .val (.int (24 : Int32)), .val (.ref q3), .val (.long (((8 : Int64) * (z_q1.toInt64)) - (0 : Int64))), .second, .val (.long ((((0 : Int64) ||| (((own_ush32 (w0_w_bytes_q1 &&& (255 : Int32)) (0 : Int32)) &&& (255 : Int32)).toInt64)) <<< ((8 : Int32) &&& 63).toInt64) ||| (((own_ush32 (w1_w_bytes_q1 &&& (255 : Int32)) (0 : Int32)) &&& (255 : Int32)).toInt64))), .second, .val (.int (16 : Int32)), .val (.int (1 : Int32)), .val (.int (8 : Int32)), .val (.int (8 : Int32)), .val (.int ((own_ush32 (w1_w_bytes_q1 &&& (255 : Int32)) (0 : Int32)) &&& (255 : Int32)))] [(.long (16 : Int64)), (.ref q1)])) rfl rfl (hb hby d7_119)
  have E_q1_45 : Exa Z h45 q1 "com/example/typewire/typewire/packet/BitInput" := E_q1_38.wr W45
  have F_q1_bytes_45 : Fld Z h45 q1 "com/example/typewire/typewire/packet/BitInput" "bytes" "[B" (.ref w_bytes_q1) := F_q1_bytes_38.other W45 (Or.inr (slot_ne (Or.inr (hw _ (List.mem_of_getElem? (i := 12) rfl))) (Or.inl (hw _ (List.mem_of_getElem? (i := 19) rfl))) (by decide) (t := (.array .byte)) (t' := .long) (by decide) (by decide)))
  have F_q1_position_45 : Fld Z h45 q1 "com/example/typewire/typewire/packet/BitInput" "position" "J" (.long (16 : Int64)) := F_q1_position_38.same W45
  have A_w_bytes_q1_45 : Arv Z h45 w_bytes_q1 kc_w_bytes_q1 .byte z_q1 [(.int w0_w_bytes_q1), (.int w1_w_bytes_q1), (.int w2_w_bytes_q1), (.int w3_w_bytes_q1)] (.int (0 : Int32)) := A_w_bytes_q1_38.other W45 (Ne.symm ne_q1_w_bytes_q1)
  have N45 := Fr.snoc X45 N41 g_q1
  have sz45 : n0 ≤ h45.size := Nat.le_trans sz38 (Keep.of_wr W45).1
  have K45 : Keep h0 h45 [q1, w_bytes_q1] := K38.wr W45 (Or.inl (List.mem_of_getElem? (i := 0) rfl))
  refine own_st ?_ st45
  show own_Fin _ _ _ _ T45 (mkF m 122 #[.val (.ref q1), .val (.int (24 : Int32)), .val (.ref q3), .val (.long (((8 : Int64) * (z_q1.toInt64)) - (0 : Int64))), .second, .val (.long ((((0 : Int64) ||| (((own_ush32 (w0_w_bytes_q1 &&& (255 : Int32)) (0 : Int32)) &&& (255 : Int32)).toInt64)) <<< ((8 : Int32) &&& 63).toInt64) ||| (((own_ush32 (w1_w_bytes_q1 &&& (255 : Int32)) (0 : Int32)) &&& (255 : Int32)).toInt64))), .second, .val (.int (16 : Int32)), .val (.int (1 : Int32)), .val (.int (8 : Int32)), .val (.int (8 : Int32)), .val (.int ((own_ush32 (w1_w_bytes_q1 &&& (255 : Int32)) (0 : Int32)) &&& (255 : Int32)))] [])
  refine own_iload X45 hx (hb hby d7_122) (pc' := 124) rfl rfl ?_
  refine own_iload X45 hx (hb hby d7_124) (pc' := 126) rfl rfl ?_
  refine own_isub X45 hx (hb hby d7_126) (pc' := 127) rfl ?_
  show own_Fin _ _ _ _ T45 (mkF m 127 #[.val (.ref q1), .val (.int (24 : Int32)), .val (.ref q3), .val (.long (((8 : Int64) * (z_q1.toInt64)) - (0 : Int64))), .second, .val (.long ((((0 : Int64) ||| (((own_ush32 (w0_w_bytes_q1 &&& (255 : Int32)) (0 : Int32)) &&& (255 : Int32)).toInt64)) <<< ((8 : Int32) &&& 63).toInt64) ||| (((own_ush32 (w1_w_bytes_q1 &&& (255 : Int32)) (0 : Int32)) &&& (255 : Int32)).toInt64))), .second, .val (.int (16 : Int32)), .val (.int (1 : Int32)), .val (.int (8 : Int32)), .val (.int (8 : Int32)), .val (.int ((own_ush32 (w1_w_bytes_q1 &&& (255 : Int32)) (0 : Int32)) &&& (255 : Int32)))] [(.int (8 : Int32))])
  refine own_istore X45 hx (hb hby d7_127) (pc' := 129) rfl (Ls' := #[.val (.ref q1), .val (.int (24 : Int32)), .val (.ref q3), .val (.long (((8 : Int64) * (z_q1.toInt64)) - (0 : Int64))), .second, .val (.long ((((0 : Int64) ||| (((own_ush32 (w0_w_bytes_q1 &&& (255 : Int32)) (0 : Int32)) &&& (255 : Int32)).toInt64)) <<< ((8 : Int32) &&& 63).toInt64) ||| (((own_ush32 (w1_w_bytes_q1 &&& (255 : Int32)) (0 : Int32)) &&& (255 : Int32)).toInt64))), .second, .val (.int (8 : Int32)), .val (.int (1 : Int32)), .val (.int (8 : Int32)), .val (.int (8 : Int32)), .val (.int ((own_ush32 (w1_w_bytes_q1 &&& (255 : Int32)) (0 : Int32)) &&& (255 : Int32)))]) rfl ?_
  refine own_goto X45 hx (hb hby d7_129) (pc' := 34) (by decide) (by decide) ?_
  refine own_iload X45 hx (hb hby d7_34) (pc' := 36) rfl rfl ?_
  refine own_ifNo X45 hx (hb hby d7_36) (pc' := 39) rfl ((if0 _ _).trans (tlt (by decide : (0 : Int32) < (8 : Int32))).2.2.2) ?_
  refine own_aloadN X45 hx (hb hby d7_39) (pc' := 40) rfl rfl rfl ?_
  refine own_getF X45 hx hZ hown (hw _ (List.mem_of_getElem? (i := 18) rfl)) Via.refl e45 F_q1_position_45 (hb hby d7_40) (pc' := 43) rfl (fun T46 X46 e46 => ?_)
  refine own_ldc2Long X46 hx hZ hown (hw _ (List.mem_of_getElem? (i := 20) rfl)) (hb hby d7_43) (pc' := 46) rfl ?_
  refine own_ldiv X46 hx (hb hby d7_46) (pc' := 47) rfl (by decide) ?_
  show own_Fin _ _ _ _ T46 (mkF m 47 #[.val (.ref q1), .val (.int (24 : Int32)), .val (.ref q3), .val (.long (((8 : Int64) * (z_q1.toInt64)) - (0 : Int64))), .second, .val (.long ((((0 : Int64) ||| (((own_ush32 (w0_w_bytes_q1 &&& (255 : Int32)) (0 : Int32)) &&& (255 : Int32)).toInt64)) <<< ((8 : Int32) &&& 63).toInt64) ||| (((own_ush32 (w1_w_bytes_q1 &&& (255 : Int32)) (0 : Int32)) &&& (255 : Int32)).toInt64))), .second, .val (.int (8 : Int32)), .val (.int (1 : Int32)), .val (.int (8 : Int32)), .val (.int (8 : Int32)), .val (.int ((own_ush32 (w1_w_bytes_q1 &&& (255 : Int32)) (0 : Int32)) &&& (255 : Int32)))] [(.long (2 : Int64))])
  refine own_l2i X46 hx (hb hby d7_47) (pc' := 48) rfl ?_
  show own_Fin _ _ _ _ T46 (mkF m 48 #[.val (.ref q1), .val (.int (24 : Int32)), .val (.ref q3), .val (.long (((8 : Int64) * (z_q1.toInt64)) - (0 : Int64))), .second, .val (.long ((((0 : Int64) ||| (((own_ush32 (w0_w_bytes_q1 &&& (255 : Int32)) (0 : Int32)) &&& (255 : Int32)).toInt64)) <<< ((8 : Int32) &&& 63).toInt64) ||| (((own_ush32 (w1_w_bytes_q1 &&& (255 : Int32)) (0 : Int32)) &&& (255 : Int32)).toInt64))), .second, .val (.int (8 : Int32)), .val (.int (1 : Int32)), .val (.int (8 : Int32)), .val (.int (8 : Int32)), .val (.int ((own_ush32 (w1_w_bytes_q1 &&& (255 : Int32)) (0 : Int32)) &&& (255 : Int32)))] [(.int (2 : Int32))])
  refine own_istore X46 hx (hb hby d7_48) (pc' := 50) rfl (Ls' := #[.val (.ref q1), .val (.int (24 : Int32)), .val (.ref q3), .val (.long (((8 : Int64) * (z_q1.toInt64)) - (0 : Int64))), .second, .val (.long ((((0 : Int64) ||| (((own_ush32 (w0_w_bytes_q1 &&& (255 : Int32)) (0 : Int32)) &&& (255 : Int32)).toInt64)) <<< ((8 : Int32) &&& 63).toInt64) ||| (((own_ush32 (w1_w_bytes_q1 &&& (255 : Int32)) (0 : Int32)) &&& (255 : Int32)).toInt64))), .second, .val (.int (8 : Int32)), .val (.int (2 : Int32)), .val (.int (8 : Int32)), .val (.int (8 : Int32)), .val (.int ((own_ush32 (w1_w_bytes_q1 &&& (255 : Int32)) (0 : Int32)) &&& (255 : Int32)))]) rfl ?_
  refine own_bipush X46 hx (hb hby d7_50) (pc' := 52) rfl (v := (8 : Int32)) rfl ?_
  refine own_aloadN X46 hx (hb hby d7_52) (pc' := 53) rfl rfl rfl ?_
  refine own_getF X46 hx hZ hown (hw _ (List.mem_of_getElem? (i := 18) rfl)) Via.refl e46 F_q1_position_45 (hb hby d7_53) (pc' := 56) rfl (fun T47 X47 e47 => ?_)
  refine own_ldc2Long X47 hx hZ hown (hw _ (List.mem_of_getElem? (i := 20) rfl)) (hb hby d7_56) (pc' := 59) rfl ?_
  refine own_lrem X47 hx (hb hby d7_59) (pc' := 60) rfl (by decide) ?_
  show own_Fin _ _ _ _ T47 (mkF m 60 #[.val (.ref q1), .val (.int (24 : Int32)), .val (.ref q3), .val (.long (((8 : Int64) * (z_q1.toInt64)) - (0 : Int64))), .second, .val (.long ((((0 : Int64) ||| (((own_ush32 (w0_w_bytes_q1 &&& (255 : Int32)) (0 : Int32)) &&& (255 : Int32)).toInt64)) <<< ((8 : Int32) &&& 63).toInt64) ||| (((own_ush32 (w1_w_bytes_q1 &&& (255 : Int32)) (0 : Int32)) &&& (255 : Int32)).toInt64))), .second, .val (.int (8 : Int32)), .val (.int (2 : Int32)), .val (.int (8 : Int32)), .val (.int (8 : Int32)), .val (.int ((own_ush32 (w1_w_bytes_q1 &&& (255 : Int32)) (0 : Int32)) &&& (255 : Int32)))] [(.long (0 : Int64)), (.int (8 : Int32))])
  refine own_l2i X47 hx (hb hby d7_60) (pc' := 61) rfl ?_
  show own_Fin _ _ _ _ T47 (mkF m 61 #[.val (.ref q1), .val (.int (24 : Int32)), .val (.ref q3), .val (.long (((8 : Int64) * (z_q1.toInt64)) - (0 : Int64))), .second, .val (.long ((((0 : Int64) ||| (((own_ush32 (w0_w_bytes_q1 &&& (255 : Int32)) (0 : Int32)) &&& (255 : Int32)).toInt64)) <<< ((8 : Int32) &&& 63).toInt64) ||| (((own_ush32 (w1_w_bytes_q1 &&& (255 : Int32)) (0 : Int32)) &&& (255 : Int32)).toInt64))), .second, .val (.int (8 : Int32)), .val (.int (2 : Int32)), .val (.int (8 : Int32)), .val (.int (8 : Int32)), .val (.int ((own_ush32 (w1_w_bytes_q1 &&& (255 : Int32)) (0 : Int32)) &&& (255 : Int32)))] [(.int (0 : Int32)), (.int (8 : Int32))])
  refine own_isub X47 hx (hb hby d7_61) (pc' := 62) rfl ?_
  show own_Fin _ _ _ _ T47 (mkF m 62 #[.val (.ref q1), .val (.int (24 : Int32)), .val (.ref q3), .val (.long (((8 : Int64) * (z_q1.toInt64)) - (0 : Int64))), .second, .val (.long ((((0 : Int64) ||| (((own_ush32 (w0_w_bytes_q1 &&& (255 : Int32)) (0 : Int32)) &&& (255 : Int32)).toInt64)) <<< ((8 : Int32) &&& 63).toInt64) ||| (((own_ush32 (w1_w_bytes_q1 &&& (255 : Int32)) (0 : Int32)) &&& (255 : Int32)).toInt64))), .second, .val (.int (8 : Int32)), .val (.int (2 : Int32)), .val (.int (8 : Int32)), .val (.int (8 : Int32)), .val (.int ((own_ush32 (w1_w_bytes_q1 &&& (255 : Int32)) (0 : Int32)) &&& (255 : Int32)))] [(.int (8 : Int32))])
  refine own_istore X47 hx (hb hby d7_62) (pc' := 64) rfl (Ls' := #[.val (.ref q1), .val (.int (24 : Int32)), .val (.ref q3), .val (.long (((8 : Int64) * (z_q1.toInt64)) - (0 : Int64))), .second, .val (.long ((((0 : Int64) ||| (((own_ush32 (w0_w_bytes_q1 &&& (255 : Int32)) (0 : Int32)) &&& (255 : Int32)).toInt64)) <<< ((8 : Int32) &&& 63).toInt64) ||| (((own_ush32 (w1_w_bytes_q1 &&& (255 : Int32)) (0 : Int32)) &&& (255 : Int32)).toInt64))), .second, .val (.int (8 : Int32)), .val (.int (2 : Int32)), .val (.int (8 : Int32)), .val (.int (8 : Int32)), .val (.int ((own_ush32 (w1_w_bytes_q1 &&& (255 : Int32)) (0 : Int32)) &&& (255 : Int32)))]) rfl ?_
  refine own_iload X47 hx (hb hby d7_64) (pc' := 66) rfl rfl ?_
  refine own_iload X47 hx (hb hby d7_66) (pc' := 68) rfl rfl ?_
  obtain ⟨_, _, ⟨T48, L48, k48, n48⟩, -, X48, ⟨Lc48, hQ48, l48, y48, z48⟩, st48⟩ := Jvm.LawKit.callS X47 hx (y := (⟨"java/lang/Math", "min", "(II)I"⟩ : MethodName)) hown (mvT hZ (hw _ (List.mem_of_getElem? (i := 52) rfl))) (mvT hZ (hw _ (List.mem_of_getElem? (i := 53) rfl))) (mvT hZ (hw _ (List.mem_of_getElem? (i := 54) rfl))) (mvT hZ (hw _ (List.mem_of_getElem? (i := 55) rfl))) (by decide) (backOf (W := 0) (rm9 l Z a0 hw [] (8 : Int32) (8 : Int32) h45 n0 sz45 ) hZ (hw _ (List.mem_of_getElem? (i := 55) rfl)) (hw _ (List.mem_of_getElem? (i := 54) rfl)) (by decide) (by decide)) (g := (mkF m 68 #[.val (.ref q1), .val (.int (24 : Int32)), .val (.ref q3), .val (.long (((8 : Int64) * (z_q1.toInt64)) - (0 : Int64))), .second, .val (.long ((((0 : Int64) ||| (((own_ush32 (w0_w_bytes_q1 &&& (255 : Int32)) (0 : Int32)) &&& (255 : Int32)).toInt64)) <<< ((8 : Int32) &&& 63).toInt64) ||| (((own_ush32 (w1_w_bytes_q1 &&& (255 : Int32)) (0 : Int32)) &&& (255 : Int32)).toInt64))), .second, .val (.int (8 : Int32)), .val (.int (2 : Int32)), .val (.int (8 : Int32)), .val (.int (8 : Int32)), .val (.int ((own_ush32 (w1_w_bytes_q1 &&& (255 : Int32)) (0 : Int32)) &&& (255 : Int32)))] [(.int (8 : Int32)), (.int (8 : Int32))])) rfl (by rw [hml]; rfl) (argsL := [(.int (8 : Int32)), (.int (8 : Int32))]) (rest := []) (lenOf pd_1 rfl) rfl (by show 2 * 0 + _ ≤ _; exact Nat.le_of_eq rfl) (hb hby d7_68) (fun _ _ => ⟨rfl, e47, (by decide : 0 + 0 ≤ _), (by decide : 0 + 0 ≤ _)⟩)
  dsimp only [Pt.U, Pt.locs, Pt.cells, Pt.slots] at X48 l48 y48 z48 st48 hQ48
  subst l48 y48 z48
  obtain ⟨rfl, N48q, e48'⟩ := hQ48
  have N48 := Fr.app N45 N48q
  refine own_st ?_ st48
  show own_Fin _ _ _ _ T48 (mkF m 71 #[.val (.ref q1), .val (.int (24 : Int32)), .val (.ref q3), .val (.long (((8 : Int64) * (z_q1.toInt64)) - (0 : Int64))), .second, .val (.long ((((0 : Int64) ||| (((own_ush32 (w0_w_bytes_q1 &&& (255 : Int32)) (0 : Int32)) &&& (255 : Int32)).toInt64)) <<< ((8 : Int32) &&& 63).toInt64) ||| (((own_ush32 (w1_w_bytes_q1 &&& (255 : Int32)) (0 : Int32)) &&& (255 : Int32)).toInt64))), .second, .val (.int (8 : Int32)), .val (.int (2 : Int32)), .val (.int (8 : Int32)), .val (.int (8 : Int32)), .val (.int ((own_ush32 (w1_w_bytes_q1 &&& (255 : Int32)) (0 : Int32)) &&& (255 : Int32)))] [(.int (own_f9 (8 : Int32) (8 : Int32)))])
  rw [(by decide : own_f9 (8 : Int32) (8 : Int32) = (8 : Int32))]
  show own_Fin _ _ _ _ T48 (mkF m 71 #[.val (.ref q1), .val (.int (24 : Int32)), .val (.ref q3), .val (.long (((8 : Int64) * (z_q1.toInt64)) - (0 : Int64))), .second, .val (.long ((((0 : Int64) ||| (((own_ush32 (w0_w_bytes_q1 &&& (255 : Int32)) (0 : Int32)) &&& (255 : Int32)).toInt64)) <<< ((8 : Int32) &&& 63).toInt64) ||| (((own_ush32 (w1_w_bytes_q1 &&& (255 : Int32)) (0 : Int32)) &&& (255 : Int32)).toInt64))), .second, .val (.int (8 : Int32)), .val (.int (2 : Int32)), .val (.int (8 : Int32)), .val (.int (8 : Int32)), .val (.int ((own_ush32 (w1_w_bytes_q1 &&& (255 : Int32)) (0 : Int32)) &&& (255 : Int32)))] [(.int (8 : Int32))])
  refine own_istore X48 hx (hb hby d7_71) (pc' := 73) rfl (Ls' := #[.val (.ref q1), .val (.int (24 : Int32)), .val (.ref q3), .val (.long (((8 : Int64) * (z_q1.toInt64)) - (0 : Int64))), .second, .val (.long ((((0 : Int64) ||| (((own_ush32 (w0_w_bytes_q1 &&& (255 : Int32)) (0 : Int32)) &&& (255 : Int32)).toInt64)) <<< ((8 : Int32) &&& 63).toInt64) ||| (((own_ush32 (w1_w_bytes_q1 &&& (255 : Int32)) (0 : Int32)) &&& (255 : Int32)).toInt64))), .second, .val (.int (8 : Int32)), .val (.int (2 : Int32)), .val (.int (8 : Int32)), .val (.int (8 : Int32)), .val (.int ((own_ush32 (w1_w_bytes_q1 &&& (255 : Int32)) (0 : Int32)) &&& (255 : Int32)))]) rfl ?_
  refine own_aloadN X48 hx (hb hby d7_73) (pc' := 74) rfl rfl rfl ?_
  refine own_getF X48 hx hZ hown (hw _ (List.mem_of_getElem? (i := 11) rfl)) Via.refl e48' F_q1_bytes_45 (hb hby d7_74) (pc' := 77) rfl (fun T49 X49 e49 => ?_)
  refine own_iload X49 hx (hb hby d7_77) (pc' := 79) rfl rfl ?_
  obtain ⟨cl50, Ar50, qa50, S50, M50, H50, G50⟩ := id A_w_bytes_q1_45
  have hin50 : ¬ ((2 : Int32) < 0 ∨ cl50.slots.size ≤ ((2 : Int32)).toNatClampNeg) := inb_of S50 ⟨by decide, hz⟩
  refine own_st ?_ (fun t k => X49.baloadBytes hx (j := (2 : Int32)) (v := (.int w2_w_bytes_q1)) (by rw [e49]; exact Ar50.1) (State.isArrayOf_alike hZ.alike Ar50.2.1) Ar50.2.2 hin50 (Has.at H50 hin50 rfl) (g := (mkF m 79 #[.val (.ref q1), .val (.int (24 : Int32)), .val (.ref q3), .val (.long (((8 : Int64) * (z_q1.toInt64)) - (0 : Int64))), .second, .val (.long ((((0 : Int64) ||| (((own_ush32 (w0_w_bytes_q1 &&& (255 : Int32)) (0 : Int32)) &&& (255 : Int32)).toInt64)) <<< ((8 : Int32) &&& 63).toInt64) ||| (((own_ush32 (w1_w_bytes_q1 &&& (255 : Int32)) (0 : Int32)) &&& (255 : Int32)).toInt64))), .second, .val (.int (8 : Int32)), .val (.int (2 : Int32)), .val (.int (8 : Int32)), .val (.int (8 : Int32)), .val (.int ((own_ush32 (w1_w_bytes_q1 &&& (255 : Int32)) (0 : Int32)) &&& (255 : Int32)))] [(.int (2 : Int32)), (.ref w_bytes_q1)])) rfl rfl (hb hby d7_79) t k)
  show own_Fin _ _ _ _ T49 (mkF m 80 #[.val (.ref q1), .val (.int (24 : Int32)), .val (.ref q3), .val (.long (((8 : Int64) * (z_q1.toInt64)) - (0 : Int64))), .second, .val (.long ((((0 : Int64) ||| (((own_ush32 (w0_w_bytes_q1 &&& (255 : Int32)) (0 : Int32)) &&& (255 : Int32)).toInt64)) <<< ((8 : Int32) &&& 63).toInt64) ||| (((own_ush32 (w1_w_bytes_q1 &&& (255 : Int32)) (0 : Int32)) &&& (255 : Int32)).toInt64))), .second, .val (.int (8 : Int32)), .val (.int (2 : Int32)), .val (.int (8 : Int32)), .val (.int (8 : Int32)), .val (.int ((own_ush32 (w1_w_bytes_q1 &&& (255 : Int32)) (0 : Int32)) &&& (255 : Int32)))] [(.int w2_w_bytes_q1)])
  refine own_sipush X49 hx (hb hby d7_80) (pc' := 83) rfl (v := (255 : Int32)) rfl ?_
  refine own_iand X49 hx (hb hby d7_83) (pc' := 84) rfl ?_
  refine own_iload X49 hx (hb hby d7_84) (pc' := 86) rfl rfl ?_
  refine own_iload X49 hx (hb hby d7_86) (pc' := 88) rfl rfl ?_
  refine own_isub X49 hx (hb hby d7_88) (pc' := 89) rfl ?_
  show own_Fin _ _ _ _ T49 (mkF m 89 #[.val (.ref q1), .val (.int (24 : Int32)), .val (.ref q3), .val (.long (((8 : Int64) * (z_q1.toInt64)) - (0 : Int64))), .second, .val (.long ((((0 : Int64) ||| (((own_ush32 (w0_w_bytes_q1 &&& (255 : Int32)) (0 : Int32)) &&& (255 : Int32)).toInt64)) <<< ((8 : Int32) &&& 63).toInt64) ||| (((own_ush32 (w1_w_bytes_q1 &&& (255 : Int32)) (0 : Int32)) &&& (255 : Int32)).toInt64))), .second, .val (.int (8 : Int32)), .val (.int (2 : Int32)), .val (.int (8 : Int32)), .val (.int (8 : Int32)), .val (.int ((own_ush32 (w1_w_bytes_q1 &&& (255 : Int32)) (0 : Int32)) &&& (255 : Int32)))] [(.int (0 : Int32)), (.int (w2_w_bytes_q1 &&& (255 : Int32)))])
  refine own_iushr X49 hx (hb hby d7_89) (pc' := 90) rfl ?_
  refine own_iconst X49 hx (hb hby d7_90) (pc' := 91) rfl (v := (1 : Int32)) rfl ?_
  refine own_iload X49 hx (hb hby d7_91) (pc' := 93) rfl rfl ?_
  refine own_ishl X49 hx (hb hby d7_93) (pc' := 94) rfl ?_
  show own_Fin _ _ _ _ T49 (mkF m 94 #[.val (.ref q1), .val (.int (24 : Int32)), .val (.ref q3), .val (.long (((8 : Int64) * (z_q1.toInt64)) - (0 : Int64))), .second, .val (.long ((((0 : Int64) ||| (((own_ush32 (w0_w_bytes_q1 &&& (255 : Int32)) (0 : Int32)) &&& (255 : Int32)).toInt64)) <<< ((8 : Int32) &&& 63).toInt64) ||| (((own_ush32 (w1_w_bytes_q1 &&& (255 : Int32)) (0 : Int32)) &&& (255 : Int32)).toInt64))), .second, .val (.int (8 : Int32)), .val (.int (2 : Int32)), .val (.int (8 : Int32)), .val (.int (8 : Int32)), .val (.int ((own_ush32 (w1_w_bytes_q1 &&& (255 : Int32)) (0 : Int32)) &&& (255 : Int32)))] [(.int (256 : Int32)), (.int (own_ush32 (w2_w_bytes_q1 &&& (255 : Int32)) (0 : Int32)))])
  refine own_iconst X49 hx (hb hby d7_94) (pc' := 95) rfl (v := (1 : Int32)) rfl ?_
  refine own_isub X49 hx (hb hby d7_95) (pc' := 96) rfl ?_
  show own_Fin _ _ _ _ T49 (mkF m 96 #[.val (.ref q1), .val (.int (24 : Int32)), .val (.ref q3), .val (.long (((8 : Int64) * (z_q1.toInt64)) - (0 : Int64))), .second, .val (.long ((((0 : Int64) ||| (((own_ush32 (w0_w_bytes_q1 &&& (255 : Int32)) (0 : Int32)) &&& (255 : Int32)).toInt64)) <<< ((8 : Int32) &&& 63).toInt64) ||| (((own_ush32 (w1_w_bytes_q1 &&& (255 : Int32)) (0 : Int32)) &&& (255 : Int32)).toInt64))), .second, .val (.int (8 : Int32)), .val (.int (2 : Int32)), .val (.int (8 : Int32)), .val (.int (8 : Int32)), .val (.int ((own_ush32 (w1_w_bytes_q1 &&& (255 : Int32)) (0 : Int32)) &&& (255 : Int32)))] [(.int (255 : Int32)), (.int (own_ush32 (w2_w_bytes_q1 &&& (255 : Int32)) (0 : Int32)))])
  refine own_iand X49 hx (hb hby d7_96) (pc' := 97) rfl ?_
  refine own_istore X49 hx (hb hby d7_97) (pc' := 99) rfl (Ls' := #[.val (.ref q1), .val (.int (24 : Int32)), .val (.ref q3), .val (.long (((8 : Int64) * (z_q1.toInt64)) - (0 : Int64))), .second, .val (.long ((((0 : Int64) ||| (((own_ush32 (w0_w_bytes_q1 &&& (255 : Int32)) (0 : Int32)) &&& (255 : Int32)).toInt64)) <<< ((8 : Int32) &&& 63).toInt64) ||| (((own_ush32 (w1_w_bytes_q1 &&& (255 : Int32)) (0 : Int32)) &&& (255 : Int32)).toInt64))), .second, .val (.int (8 : Int32)), .val (.int (2 : Int32)), .val (.int (8 : Int32)), .val (.int (8 : Int32)), .val (.int ((own_ush32 (w2_w_bytes_q1 &&& (255 : Int32)) (0 : Int32)) &&& (255 : Int32)))]) rfl ?_
  refine own_lload X49 hx (hb hby d7_99) (pc' := 101) rfl rfl ?_
  refine own_iload X49 hx (hb hby d7_101) (pc' := 103) rfl rfl ?_
  refine own_lshl X49 hx (hb hby d7_103) (pc' := 104) rfl ?_
  refine own_iload X49 hx (hb hby d7_104) (pc' := 106) rfl rfl ?_
  refine own_i2l X49 hx (hb hby d7_106) (pc' := 107) rfl ?_
  refine own_lor X49 hx (hb hby d7_107) (pc' := 108) rfl ?_
  refine own_lstore X49 hx (hb hby d7_108) (pc' := 110) rfl (Ls' := #[.val (.ref q1), .val (.int (24 : Int32)), .val (.ref q3), .val (.long (((8 : Int64) * (z_q1.toInt64)) - (0 : Int64))), .second, .val (.long ((((((0 : Int64) ||| (((own_ush32 (w0_w_bytes_q1 &&& (255 : Int32)) (0 : Int32)) &&& (255 : Int32)).toInt64)) <<< ((8 : Int32) &&& 63).toInt64) ||| (((own_ush32 (w1_w_bytes_q1 &&& (255 : Int32)) (0 : Int32)) &&& (255 : Int32)).toInt64)) <<< ((8 : Int32) &&& 63).toInt64) ||| (((own_ush32 (w2_w_bytes_q1 &&& (255 : Int32)) (0 : Int32)) &&& (255 : Int32)).toInt64))), .second, .val (.int (8 : Int32)), .val (.int (2 : Int32)), .val (.int (8 : Int32)), .val (.int (8 : Int32)), .val (.int ((own_ush32 (w2_w_bytes_q1 &&& (255 : Int32)) (0 : Int32)) &&& (255 : Int32)))]) rfl ?_
  refine own_aloadN X49 hx (hb hby d7_110) (pc' := 111) rfl rfl rfl ?_
  refine own_dup X49 hx (hb hby d7_111) (pc' := 112) rfl rfl ?_
  refine own_getF X49 hx hZ hown (hw _ (List.mem_of_getElem? (i := 18) rfl)) Via.refl e49 F_q1_position_45 (hb hby d7_112) (pc' := 115) rfl (fun T51 X51 e51 => ?_)
  refine own_iload X51 hx (hb hby d7_115) (pc' := 117) rfl rfl ?_
  refine own_i2l X51 hx (hb hby d7_117) (pc' := 118) rfl ?_
  show own_Fin _ _ _ _ T51 (mkF m 118 #[.val (.ref q1), .val (.int (24 : Int32)), .val (.ref q3), .val (.long (((8 : Int64) * (z_q1.toInt64)) - (0 : Int64))), .second, .val (.long ((((((0 : Int64) ||| (((own_ush32 (w0_w_bytes_q1 &&& (255 : Int32)) (0 : Int32)) &&& (255 : Int32)).toInt64)) <<< ((8 : Int32) &&& 63).toInt64) ||| (((own_ush32 (w1_w_bytes_q1 &&& (255 : Int32)) (0 : Int32)) &&& (255 : Int32)).toInt64)) <<< ((8 : Int32) &&& 63).toInt64) ||| (((own_ush32 (w2_w_bytes_q1 &&& (255 : Int32)) (0 : Int32)) &&& (255 : Int32)).toInt64))), .second, .val (.int (8 : Int32)), .val (.int (2 : Int32)), .val (.int (8 : Int32)), .val (.int (8 : Int32)), .val (.int ((own_ush32 (w2_w_bytes_q1 &&& (255 : Int32)) (0 : Int32)) &&& (255 : Int32)))] [(.long (8 : Int64)), (.long (16 : Int64)), (.ref q1)])
  refine own_ladd X51 hx (hb hby d7_118) (pc' := 119) rfl ?_
  show own_Fin _ _ _ _ T51 (mkF m 119 #[.val (.ref q1), .val (.int (24 : Int32)), .val (.ref q3), .val (.long (((8 : Int64) * (z_q1.toInt64)) - (0 : Int64))), .second, .val (.long ((((((0 : Int64) ||| (((own_ush32 (w0_w_bytes_q1 &&& (255 : Int32)) (0 : Int32)) &&& (255 : Int32)).toInt64)) <<< ((8 : Int32) &&& 63).toInt64) ||| (((own_ush32 (w1_w_bytes_q1 &&& (255 : Int32)) (0 : Int32)) &&& (255 : Int32)).toInt64)) <<< ((8 : Int32) &&& 63).toInt64) ||| (((own_ush32 (w2_w_bytes_q1 &&& (255 : Int32)) (0 : Int32)) &&& (255 : Int32)).toInt64))), .second, .val (.int (8 : Int32)), .val (.int (2 : Int32)), .val (.int (8 : Int32)), .val (.int (8 : Int32)), .val (.int ((own_ush32 (w2_w_bytes_q1 &&& (255 : Int32)) (0 : Int32)) &&& (255 : Int32)))] [(.long (24 : Int64)), (.ref q1)])
  obtain ⟨T52, h52, X52, e52, W52, st52⟩ := putF X51 hx hZ hown (host := "") (Or.inl (hw _ (List.mem_of_getElem? (i := 18) rfl))) Via.refl e51 F_q1_position_45 E_q1_45 (Or.inl (hw _ (List.mem_of_getElem? (i := 19) rfl))) (hw _ (List.mem_of_getElem? (i := 3) rfl)) (ty := .long) (by decide) rfl rfl (g := (mkF m 119 #[.val (.ref q1), .val (.int (24 : Int32)), .val (.ref q3), .val (.long (((8 : Int64) * (z_q1.toInt64)) - (0 : Int64))), .second, .val (.long ((((((0 : Int64) ||| (((own_ush32 (w0_w_bytes_q1 &&& (255 : Int32)) (0 : Int32)) &&& (255 : Int32)).toInt64)) <<< ((8 : Int32) &&& 63).toInt64) ||| (((own_ush32 (w1_w_bytes_q1 &&& (255 : Int32)) (0 : Int32)) &&& (255 : Int32)).toInt64)) <<< ((8 : Int32) &&& 63).toInt64) ||| (((own_ush32 (w2_w_bytes_q1 &&& (255 : Int32)) (0 : Int32)) &&& (255 : Int32)).toInt64))), .second, .val (.int (8 : Int32)), .val (.int (2 : Int32)), .val (.int (8 : Int32)), .val (.int (8 : Int32)), .val (.int ((own_ush32 (w2_w_bytes_q1 &&& (255 : Int32)) (0 : Int32)) &&& (255 : Int32)))] [(.long (24 : Int64)), (.ref q1)])) rfl rfl (hb hby d7_119)
  have E_q1_52 : Exa Z h52 q1 "com/example/typewire/typewire/packet/BitInput" := E_q1_45.wr W52
  have F_q1_bytes_52 : Fld Z h52 q1 "com/example/typewire/typewire/packet/BitInput" "bytes" "[B" (.ref w_bytes_q1) := F_q1_bytes_45.other W52 (Or.inr (slot_ne (Or.inr (hw _ (List.mem_of_getElem? (i := 12) rfl))) (Or.inl (hw _ (List.mem_of_getElem? (i := 19) rfl))) (by decide) (t := (.array .byte)) (t' := .long) (by decide) (by decide)))
  have F_q1_position_52 : Fld Z h52 q1 "com/example/typewire/typewire/packet/BitInput" "position" "J" (.long (24 : Int64)) := F_q1_position_45.same W52
  have A_w_bytes_q1_52 : Arv Z h52 w_bytes_q1 kc_w_bytes_q1 .byte z_q1 [(.int w0_w_bytes_q1), (.int w1_w_bytes_q1), (.int w2_w_bytes_q1), (.int w3_w_bytes_q1)] (.int (0 : Int32)) := A_w_bytes_q1_45.other W52 (Ne.symm ne_q1_w_bytes_q1)
  have N52 := Fr.snoc X52 N48 g_q1
  have sz52 : n0 ≤ h52.size := Nat.le_trans sz45 (Keep.of_wr W52).1
  have K52 : Keep h0 h52 [q1, w_bytes_q1] := K45.wr W52 (Or.inl (List.mem_of_getElem? (i := 0) rfl))
  refine own_st ?_ st52
  show own_Fin _ _ _ _ T52 (mkF m 122 #[.val (.ref q1), .val (.int (24 : Int32)), .val (.ref q3), .val (.long (((8 : Int64) * (z_q1.toInt64)) - (0 : Int64))), .second, .val (.long ((((((0 : Int64) ||| (((own_ush32 (w0_w_bytes_q1 &&& (255 : Int32)) (0 : Int32)) &&& (255 : Int32)).toInt64)) <<< ((8 : Int32) &&& 63).toInt64) ||| (((own_ush32 (w1_w_bytes_q1 &&& (255 : Int32)) (0 : Int32)) &&& (255 : Int32)).toInt64)) <<< ((8 : Int32) &&& 63).toInt64) ||| (((own_ush32 (w2_w_bytes_q1 &&& (255 : Int32)) (0 : Int32)) &&& (255 : Int32)).toInt64))), .second, .val (.int (8 : Int32)), .val (.int (2 : Int32)), .val (.int (8 : Int32)), .val (.int (8 : Int32)), .val (.int ((own_ush32 (w2_w_bytes_q1 &&& (255 : Int32)) (0 : Int32)) &&& (255 : Int32)))] [])
  refine own_iload X52 hx (hb hby d7_122) (pc' := 124) rfl rfl ?_
  refine own_iload X52 hx (hb hby d7_124) (pc' := 126) rfl rfl ?_
  refine own_isub X52 hx (hb hby d7_126) (pc' := 127) rfl ?_
  show own_Fin _ _ _ _ T52 (mkF m 127 #[.val (.ref q1), .val (.int (24 : Int32)), .val (.ref q3), .val (.long (((8 : Int64) * (z_q1.toInt64)) - (0 : Int64))), .second, .val (.long ((((((0 : Int64) ||| (((own_ush32 (w0_w_bytes_q1 &&& (255 : Int32)) (0 : Int32)) &&& (255 : Int32)).toInt64)) <<< ((8 : Int32) &&& 63).toInt64) ||| (((own_ush32 (w1_w_bytes_q1 &&& (255 : Int32)) (0 : Int32)) &&& (255 : Int32)).toInt64)) <<< ((8 : Int32) &&& 63).toInt64) ||| (((own_ush32 (w2_w_bytes_q1 &&& (255 : Int32)) (0 : Int32)) &&& (255 : Int32)).toInt64))), .second, .val (.int (8 : Int32)), .val (.int (2 : Int32)), .val (.int (8 : Int32)), .val (.int (8 : Int32)), .val (.int ((own_ush32 (w2_w_bytes_q1 &&& (255 : Int32)) (0 : Int32)) &&& (255 : Int32)))] [(.int (0 : Int32))])
  refine own_istore X52 hx (hb hby d7_127) (pc' := 129) rfl (Ls' := #[.val (.ref q1), .val (.int (24 : Int32)), .val (.ref q3), .val (.long (((8 : Int64) * (z_q1.toInt64)) - (0 : Int64))), .second, .val (.long ((((((0 : Int64) ||| (((own_ush32 (w0_w_bytes_q1 &&& (255 : Int32)) (0 : Int32)) &&& (255 : Int32)).toInt64)) <<< ((8 : Int32) &&& 63).toInt64) ||| (((own_ush32 (w1_w_bytes_q1 &&& (255 : Int32)) (0 : Int32)) &&& (255 : Int32)).toInt64)) <<< ((8 : Int32) &&& 63).toInt64) ||| (((own_ush32 (w2_w_bytes_q1 &&& (255 : Int32)) (0 : Int32)) &&& (255 : Int32)).toInt64))), .second, .val (.int (0 : Int32)), .val (.int (2 : Int32)), .val (.int (8 : Int32)), .val (.int (8 : Int32)), .val (.int ((own_ush32 (w2_w_bytes_q1 &&& (255 : Int32)) (0 : Int32)) &&& (255 : Int32)))]) rfl ?_
  refine own_goto X52 hx (hb hby d7_129) (pc' := 34) (by decide) (by decide) ?_
  refine own_iload X52 hx (hb hby d7_34) (pc' := 36) rfl rfl ?_
  refine own_ifYes X52 hx (hb hby d7_36) ((if0 _ _).trans (flt (by decide : ¬ ((0 : Int32) < (0 : Int32)))).2.2.2) (pc' := 132) (by decide) (by decide) ?_
  refine own_lload X52 hx (hb hby d7_132) (pc' := 134) rfl rfl ?_
  refine own_retJ X52 hx hret hlk (hb hby d7_134) (by decide) (by decide) ?_
  show own_Q7s3 Z q1 q3 w_bytes_q1 z_q1 kc_w_bytes_q1 w0_w_bytes_q1 w1_w_bytes_q1 w2_w_bytes_q1 w3_w_bytes_q1 h0 n0 _ T52.heap _
  rw [e52]
  exact ⟨(congrArg some (congrArg Value.long (show ((((((0 : Int64) ||| (((own_ush32 (w0_w_bytes_q1 &&& (255 : Int32)) (0 : Int32)) &&& (255 : Int32)).toInt64)) <<< ((8 : Int32) &&& 63).toInt64) ||| (((own_ush32 (w1_w_bytes_q1 &&& (255 : Int32)) (0 : Int32)) &&& (255 : Int32)).toInt64)) <<< ((8 : Int32) &&& 63).toInt64) ||| (((own_ush32 (w2_w_bytes_q1 &&& (255 : Int32)) (0 : Int32)) &&& (255 : Int32)).toInt64)) = (own_f7s3 z_q1 w0_w_bytes_q1 w1_w_bytes_q1 w2_w_bytes_q1 w3_w_bytes_q1) from by rw [own_f7s3]))), N52, K52, E_q1_52, F_q1_bytes_52, F_q1_position_52, A_w_bytes_q1_52⟩
theorem ef_7s3 (m : MethodId) (q1 : Addr) (q3 : Addr) : entryFrame m #[(.ref q1), (.int (24 : Int32)), (.ref q3)] 12 = mkF m 0 #[.val (.ref q1), .val (.int (24 : Int32)), .val (.ref q3), .unset, .unset, .unset, .unset, .unset, .unset, .unset, .unset, .unset] [] := by first | (simp [entryFrame, mkF, argsToLocals, Value.category]; done) | rfl
set_option maxRecDepth 65536 in
set_option maxHeartbeats 40000000 in
theorem rm7s3 (l : Launch) (Z : State) (a0 : Array Value) (hw : ∀ d ∈ tables_1, d.before a0 Z = true) (ws : List Jvm.Cond) (q1 : Addr) (q3 : Addr) (w_bytes_q1 : Addr) (z_q1 : Int32) (kc_w_bytes_q1 : ClassId) (w0_w_bytes_q1 : Int32) (w1_w_bytes_q1 : Int32) (w2_w_bytes_q1 : Int32) (w3_w_bytes_q1 : Int32) (h0 : Heap) (n0 : Nat) (Z0 : n0 ≤ h0.size) (E_q1 : Exa Z h0 q1 "com/example/typewire/typewire/packet/BitInput") (g_q1 : n0 ≤ q1) (F_bytes_q1 : Fld Z h0 q1 "com/example/typewire/typewire/packet/BitInput" "bytes" "[B" (.ref w_bytes_q1)) (F_position_q1 : Fld Z h0 q1 "com/example/typewire/typewire/packet/BitInput" "position" "J" (.long (0 : Int64))) (A_w_bytes_q1 : Arv Z h0 w_bytes_q1 kc_w_bytes_q1 .byte z_q1 [(.int w0_w_bytes_q1), (.int w1_w_bytes_q1), (.int w2_w_bytes_q1), (.int w3_w_bytes_q1)] (.int (0 : Int32))) (g_w_bytes_q1 : n0 ≤ w_bytes_q1) (ne_q1_w_bytes_q1 : q1 ≠ w_bytes_q1) (hz : (2 : Int32) < z_q1) (hc9 : ¬ ((((8 : Int64) * (z_q1.toInt64)) - (0 : Int64)) < (24 : Int64))) :
    MetFree l (⟨"com/example/typewire/typewire/packet/BitInput", "readBits", "(ILjava/lang/String;)J"⟩ : MethodName) (head1 (Jvm.Cond.code (⟨"com/example/typewire/typewire/packet/BitInput", "readBits", "(ILjava/lang/String;)J"⟩ : MethodName) prog_12_method_3_code 12 (some .long) :: ws) ({ frames := 1, cells := 0, slots := 0, locals := 13 } : Room)) (fun a U => a = #[(.ref q1), (.int (24 : Int32)), (.ref q3)] ∧ Z.Warmed39 U.vm ∧ U.heap = h0) (fun _ _ _ _ _ => True) (fun _ U o U' => ∃ v L, o = .returned v ∧ (own_Q7s3 Z q1 q3 w_bytes_q1 z_q1 kc_w_bytes_q1 w0_w_bytes_q1 w1_w_bytes_q1 w2_w_bytes_q1 w3_w_bytes_q1 h0 n0) v U'.heap L ∧ FrameEnd U o U' L ({ frames := 1, cells := 0, slots := 0, locals := 13 } : Room).cells ({ frames := 1, cells := 0, slots := 0, locals := 13 } : Room).slots) := by
  refine MetFree.of_bodySF (plainFor_of_name pn_7) hisR ?_
  intro p e s m args below meth c s₁ Bd hml0 hP hK
  obtain ⟨rfl, hZ, hh⟩ := hP
  have hown : s.vm.findClass "com/example/typewire/typewire/packet/BitInput" = some m.cls := findClass_of_methodNamed Bd.named
  have hnm := (name_of_methodNamed Bd.named Bd.method).1
  have X0 : Stand p l e ({ frames := 1, cells := 0, slots := 0, locals := 13 } : Room) s m #[(.ref q1), (.int (24 : Int32)), (.ref q3)] below meth c s₁ [] 0 0 := Stand.of_body Bd
  have e0 : s₁.heap = h0 := by rw [← hh, Bd.state]; rfl
  have H := sg7s3_0 l hw Bd.exec hZ Bd.bytes hml0 hown hnm Bd.returns Bd.notSynchronized q1 q3 w_bytes_q1 z_q1 kc_w_bytes_q1 w0_w_bytes_q1 w1_w_bytes_q1 w2_w_bytes_q1 w3_w_bytes_q1 Z0 X0 (Fr.nil n0) e0 E_q1 g_q1 F_bytes_q1 F_position_q1 A_w_bytes_q1 g_w_bytes_q1 ne_q1_w_bytes_q1 hz hc9
  obtain ⟨t, h1, h2, o, h3, h4⟩ := H
  exact ⟨t, o, castTop (ef_7s3 m q1 q3) h1, h2, h3, h4⟩
def own_f7s4 (z_q1 : Int32) (w0_w_bytes_q1 : Int32) (w1_w_bytes_q1 : Int32) (w2_w_bytes_q1 : Int32) (w3_w_bytes_q1 : Int32) : Int64 :=
  ((((((((0 : Int64) ||| (((own_ush32 (w0_w_bytes_q1 &&& (255 : Int32)) (0 : Int32)) &&& (255 : Int32)).toInt64)) <<< ((8 : Int32) &&& 63).toInt64) ||| (((own_ush32 (w1_w_bytes_q1 &&& (255 : Int32)) (0 : Int32)) &&& (255 : Int32)).toInt64)) <<< ((8 : Int32) &&& 63).toInt64) ||| (((own_ush32 (w2_w_bytes_q1 &&& (255 : Int32)) (0 : Int32)) &&& (255 : Int32)).toInt64)) <<< ((8 : Int32) &&& 63).toInt64) ||| (((own_ush32 (w3_w_bytes_q1 &&& (255 : Int32)) (0 : Int32)) &&& (255 : Int32)).toInt64))
def own_Q7s4 (Z : State) (q1 : Addr) (q3 : Addr) (w_bytes_q1 : Addr) (z_q1 : Int32) (kc_w_bytes_q1 : ClassId) (w0_w_bytes_q1 : Int32) (w1_w_bytes_q1 : Int32) (w2_w_bytes_q1 : Int32) (w3_w_bytes_q1 : Int32) (h0 : Heap) (n0 : Nat) (v : Option Value) (h : Heap) (L : List Loc) : Prop := v = some (.long (own_f7s4 z_q1 w0_w_bytes_q1 w1_w_bytes_q1 w2_w_bytes_q1 w3_w_bytes_q1)) ∧ Fr n0 L ∧ Keep h0 h [q1, w_bytes_q1] ∧ Exa Z h q1 "com/example/typewire/typewire/packet/BitInput" ∧ Fld Z h q1 "com/example/typewire/typewire/packet/BitInput" "bytes" "[B" (.ref w_bytes_q1) ∧ Fld Z h q1 "com/example/typewire/typewire/packet/BitInput" "position" "J" (.long (32 : Int64)) ∧ Arv Z h w_bytes_q1 kc_w_bytes_q1 .byte z_q1 [(.int w0_w_bytes_q1), (.int w1_w_bytes_q1), (.int w2_w_bytes_q1), (.int w3_w_bytes_q1)] (.int (0 : Int32))
set_option maxRecDepth 65536 in
set_option maxHeartbeats 40000000 in
theorem sg7s4_0 {p : Program} (l : Launch) {e : Env} {s : State} {m : MethodId} {args : Array Value} {below : List Frame} {meth : Method} {c : Code} {Z : State} {a0 : Array Value} (hw : ∀ d ∈ tables_1, d.before a0 Z = true) (hx : p.tables.exec = Jvm.exec) (hZ : Z.Warmed39 s.vm) (hby : c.code = prog_12_method_3_code) (hml : c.maxLocals = 12) (hown : s.vm.findClass "com/example/typewire/typewire/packet/BitInput" = some m.cls) (hnm : meth.name = "readBits") (hret : meth.sig.returnType = (some .long)) (hlk : meth.locks = false) (q1 : Addr) (q3 : Addr) (w_bytes_q1 : Addr) (z_q1 : Int32) (kc_w_bytes_q1 : ClassId) (w0_w_bytes_q1 : Int32) (w1_w_bytes_q1 : Int32) (w2_w_bytes_q1 : Int32) (w3_w_bytes_q1 : Int32) {h0 : Heap} {n0 : Nat} (Z0 : n0 ≤ h0.size) {T0 : State} {L0 : List Loc} (X0 : Stand p l e ({ frames := 1, cells := 0, slots := 0, locals := 13 } : Room) s m args below meth c T0 L0 0 0) (N0 : Fr n0 L0) (e0 : T0.heap = h0) (E_q1 : Exa Z h0 q1 "com/example/typewire/typewire/packet/BitInput") (g_q1 : n0 ≤ q1) (F_bytes_q1 : Fld Z h0 q1 "com/example/typewire/typewire/packet/BitInput" "bytes" "[B" (.ref w_bytes_q1)) (F_position_q1 : Fld Z h0 q1 "com/example/typewire/typewire/packet/BitInput" "position" "J" (.long (0 : Int64))) (A_w_bytes_q1 : Arv Z h0 w_bytes_q1 kc_w_bytes_q1 .byte z_q1 [(.int w0_w_bytes_q1), (.int w1_w_bytes_q1), (.int w2_w_bytes_q1), (.int w3_w_bytes_q1)] (.int (0 : Int32))) (g_w_bytes_q1 : n0 ≤ w_bytes_q1) (ne_q1_w_bytes_q1 : q1 ≠ w_bytes_q1) (hz : (3 : Int32) < z_q1) (hc9 : ¬ ((((8 : Int64) * (z_q1.toInt64)) - (0 : Int64)) < (32 : Int64))) :
    own_Fin p.tables e below (own_End below s (own_Q7s4 Z q1 q3 w_bytes_q1 z_q1 kc_w_bytes_q1 w0_w_bytes_q1 w1_w_bytes_q1 w2_w_bytes_q1 w3_w_bytes_q1 h0 n0) 0 0) T0 (mkF m 0 #[.val (.ref q1), .val (.int (32 : Int32)), .val (.ref q3), .unset, .unset, .unset, .unset, .unset, .unset, .unset, .unset, .unset] []) := by
  have K0 := Keep.refl h0 [q1, w_bytes_q1]
  refine own_aloadN X0 hx (hb hby d7_0) (pc' := 1) rfl rfl rfl ?_
  obtain ⟨cq53, q53, q53'⟩ := E_q1.cell
  obtain ⟨_, _, ⟨T53, L53, k53, n53⟩, -, X53, ⟨Lc53, hQ53, l53, y53, z53⟩, st53⟩ := X0.privateBack hx (y := (⟨"com/example/typewire/typewire/packet/BitInput", "bitsLeft", "()J"⟩ : MethodName)) hown (mvT hZ (hw _ (List.mem_of_getElem? (i := 48) rfl))) (mvT hZ (hw _ (List.mem_of_getElem? (i := 49) rfl))) (own_selP hZ (hw _ (List.mem_of_getElem? (i := 49) rfl)) (hw _ (List.mem_of_getElem? (i := 50) rfl)) (hw _ (List.mem_of_getElem? (i := 16) rfl))) (Cond.privateMethod_at (mvP hZ (hw _ (List.mem_of_getElem? (i := 50) rfl)) (args := #[]))) (mvT hZ (hw _ (List.mem_of_getElem? (i := 51) rfl))) (by decide) (backOf (W := 0) (rm8 l Z a0 hw [] q1 w_bytes_q1 (0 : Int64) z_q1 kc_w_bytes_q1 w0_w_bytes_q1 w1_w_bytes_q1 w2_w_bytes_q1 w3_w_bytes_q1 h0 n0 Z0 E_q1 F_bytes_q1 F_position_q1 A_w_bytes_q1) hZ (hw _ (List.mem_of_getElem? (i := 51) rfl)) (hw _ (List.mem_of_getElem? (i := 4) rfl)) (by decide) (by decide)) (g := (mkF m 1 #[.val (.ref q1), .val (.int (32 : Int32)), .val (.ref q3), .unset, .unset, .unset, .unset, .unset, .unset, .unset, .unset, .unset] [(.ref q1)])) rfl (by rw [hml]; rfl) (Steps.refl _) (a := q1) (by rw [e0]; exact q53) q53' (argsL := []) (rest := []) (lenOf pd_0 rfl) rfl (by show 2 * 0 + _ ≤ _; exact Nat.le_of_eq rfl) (hb hby d7_1) (fun _ _ => ⟨rfl, e0, (by decide : 0 + 0 ≤ _), (by decide : 0 + 0 ≤ _)⟩)
  dsimp only [Pt.U, Pt.locs, Pt.cells, Pt.slots] at X53 l53 y53 z53 st53 hQ53
  subst l53 y53 z53
  obtain ⟨rfl, N53q, e53'⟩ := hQ53
  have N53 := Fr.app N0 N53q
  refine own_st ?_ (fun t k => st53.trans k)
  show own_Fin _ _ _ _ T53 (mkF m 4 #[.val (.ref q1), .val (.int (32 : Int32)), .val (.ref q3), .unset, .unset, .unset, .unset, .unset, .unset, .unset, .unset, .unset] [(.long (((8 : Int64) * (z_q1.toInt64)) - (0 : Int64)))])
  refine own_lstoreN X53 hx (hb hby d7_4) (pc' := 5) rfl (Ls' := #[.val (.ref q1), .val (.int (32 : Int32)), .val (.ref q3), .val (.long (((8 : Int64) * (z_q1.toInt64)) - (0 : Int64))), .second, .unset, .unset, .unset, .unset, .unset, .unset, .unset]) rfl ?_
  refine own_lloadN X53 hx (hb hby d7_5) (pc' := 6) rfl rfl ?_
  refine own_iloadN X53 hx (hb hby d7_6) (pc' := 7) rfl rfl ?_
  refine own_i2l X53 hx (hb hby d7_7) (pc' := 8) rfl ?_
  show own_Fin _ _ _ _ T53 (mkF m 8 #[.val (.ref q1), .val (.int (32 : Int32)), .val (.ref q3), .val (.long (((8 : Int64) * (z_q1.toInt64)) - (0 : Int64))), .second, .unset, .unset, .unset, .unset, .unset, .unset, .unset] [(.long (32 : Int64)), (.long (((8 : Int64) * (z_q1.toInt64)) - (0 : Int64)))])
  refine own_lcmp X53 hx (hb hby d7_8) (pc' := 9) rfl ?_
  refine own_ifYes X53 hx (hb hby d7_9) ((if0 _ _).trans (flt (mt own_lc_lt.mp hc9)).2.1) (pc' := 28) (by decide) (by decide) ?_
  refine own_lconst X53 hx (hb hby d7_28) (pc' := 29) rfl (v := (0 : Int64)) rfl ?_
  refine own_lstore X53 hx (hb hby d7_29) (pc' := 31) rfl (Ls' := #[.val (.ref q1), .val (.int (32 : Int32)), .val (.ref q3), .val (.long (((8 : Int64) * (z_q1.toInt64)) - (0 : Int64))), .second, .val (.long (0 : Int64)), .second, .unset, .unset, .unset, .unset, .unset]) rfl ?_
  refine own_iloadN X53 hx (hb hby d7_31) (pc' := 32) rfl rfl ?_
  refine own_istore X53 hx (hb hby d7_32) (pc' := 34) rfl (Ls' := #[.val (.ref q1), .val (.int (32 : Int32)), .val (.ref q3), .val (.long (((8 : Int64) * (z_q1.toInt64)) - (0 : Int64))), .second, .val (.long (0 : Int64)), .second, .val (.int (32 : Int32)), .unset, .unset, .unset, .unset]) rfl ?_
  refine own_iload X53 hx (hb hby d7_34) (pc' := 36) rfl rfl ?_
  refine own_ifNo X53 hx (hb hby d7_36) (pc' := 39) rfl ((if0 _ _).trans (tlt (by decide : (0 : Int32) < (32 : Int32))).2.2.2) ?_
  refine own_aloadN X53 hx (hb hby d7_39) (pc' := 40) rfl rfl rfl ?_
  refine own_getF X53 hx hZ hown (hw _ (List.mem_of_getElem? (i := 18) rfl)) Via.refl e53' F_position_q1 (hb hby d7_40) (pc' := 43) rfl (fun T54 X54 e54 => ?_)
  refine own_ldc2Long X54 hx hZ hown (hw _ (List.mem_of_getElem? (i := 20) rfl)) (hb hby d7_43) (pc' := 46) rfl ?_
  refine own_ldiv X54 hx (hb hby d7_46) (pc' := 47) rfl (by decide) ?_
  show own_Fin _ _ _ _ T54 (mkF m 47 #[.val (.ref q1), .val (.int (32 : Int32)), .val (.ref q3), .val (.long (((8 : Int64) * (z_q1.toInt64)) - (0 : Int64))), .second, .val (.long (0 : Int64)), .second, .val (.int (32 : Int32)), .unset, .unset, .unset, .unset] [(.long (0 : Int64))])
  refine own_l2i X54 hx (hb hby d7_47) (pc' := 48) rfl ?_
  show own_Fin _ _ _ _ T54 (mkF m 48 #[.val (.ref q1), .val (.int (32 : Int32)), .val (.ref q3), .val (.long (((8 : Int64) * (z_q1.toInt64)) - (0 : Int64))), .second, .val (.long (0 : Int64)), .second, .val (.int (32 : Int32)), .unset, .unset, .unset, .unset] [(.int (0 : Int32))])
  refine own_istore X54 hx (hb hby d7_48) (pc' := 50) rfl (Ls' := #[.val (.ref q1), .val (.int (32 : Int32)), .val (.ref q3), .val (.long (((8 : Int64) * (z_q1.toInt64)) - (0 : Int64))), .second, .val (.long (0 : Int64)), .second, .val (.int (32 : Int32)), .val (.int (0 : Int32)), .unset, .unset, .unset]) rfl ?_
  refine own_bipush X54 hx (hb hby d7_50) (pc' := 52) rfl (v := (8 : Int32)) rfl ?_
  refine own_aloadN X54 hx (hb hby d7_52) (pc' := 53) rfl rfl rfl ?_
  refine own_getF X54 hx hZ hown (hw _ (List.mem_of_getElem? (i := 18) rfl)) Via.refl e54 F_position_q1 (hb hby d7_53) (pc' := 56) rfl (fun T55 X55 e55 => ?_)
  refine own_ldc2Long X55 hx hZ hown (hw _ (List.mem_of_getElem? (i := 20) rfl)) (hb hby d7_56) (pc' := 59) rfl ?_
  refine own_lrem X55 hx (hb hby d7_59) (pc' := 60) rfl (by decide) ?_
  show own_Fin _ _ _ _ T55 (mkF m 60 #[.val (.ref q1), .val (.int (32 : Int32)), .val (.ref q3), .val (.long (((8 : Int64) * (z_q1.toInt64)) - (0 : Int64))), .second, .val (.long (0 : Int64)), .second, .val (.int (32 : Int32)), .val (.int (0 : Int32)), .unset, .unset, .unset] [(.long (0 : Int64)), (.int (8 : Int32))])
  refine own_l2i X55 hx (hb hby d7_60) (pc' := 61) rfl ?_
  show own_Fin _ _ _ _ T55 (mkF m 61 #[.val (.ref q1), .val (.int (32 : Int32)), .val (.ref q3), .val (.long (((8 : Int64) * (z_q1.toInt64)) - (0 : Int64))), .second, .val (.long (0 : Int64)), .second, .val (.int (32 : Int32)), .val (.int (0 : Int32)), .unset, .unset, .unset] [(.int (0 : Int32)), (.int (8 : Int32))])
  refine own_isub X55 hx (hb hby d7_61) (pc' := 62) rfl ?_
  show own_Fin _ _ _ _ T55 (mkF m 62 #[.val (.ref q1), .val (.int (32 : Int32)), .val (.ref q3), .val (.long (((8 : Int64) * (z_q1.toInt64)) - (0 : Int64))), .second, .val (.long (0 : Int64)), .second, .val (.int (32 : Int32)), .val (.int (0 : Int32)), .unset, .unset, .unset] [(.int (8 : Int32))])
  refine own_istore X55 hx (hb hby d7_62) (pc' := 64) rfl (Ls' := #[.val (.ref q1), .val (.int (32 : Int32)), .val (.ref q3), .val (.long (((8 : Int64) * (z_q1.toInt64)) - (0 : Int64))), .second, .val (.long (0 : Int64)), .second, .val (.int (32 : Int32)), .val (.int (0 : Int32)), .val (.int (8 : Int32)), .unset, .unset]) rfl ?_
  refine own_iload X55 hx (hb hby d7_64) (pc' := 66) rfl rfl ?_
  refine own_iload X55 hx (hb hby d7_66) (pc' := 68) rfl rfl ?_
  obtain ⟨_, _, ⟨T56, L56, k56, n56⟩, -, X56, ⟨Lc56, hQ56, l56, y56, z56⟩, st56⟩ := Jvm.LawKit.callS X55 hx (y := (⟨"java/lang/Math", "min", "(II)I"⟩ : MethodName)) hown (mvT hZ (hw _ (List.mem_of_getElem? (i := 52) rfl))) (mvT hZ (hw _ (List.mem_of_getElem? (i := 53) rfl))) (mvT hZ (hw _ (List.mem_of_getElem? (i := 54) rfl))) (mvT hZ (hw _ (List.mem_of_getElem? (i := 55) rfl))) (by decide) (backOf (W := 0) (rm9 l Z a0 hw [] (8 : Int32) (32 : Int32) h0 n0 Z0 ) hZ (hw _ (List.mem_of_getElem? (i := 55) rfl)) (hw _ (List.mem_of_getElem? (i := 54) rfl)) (by decide) (by decide)) (g := (mkF m 68 #[.val (.ref q1), .val (.int (32 : Int32)), .val (.ref q3), .val (.long (((8 : Int64) * (z_q1.toInt64)) - (0 : Int64))), .second, .val (.long (0 : Int64)), .second, .val (.int (32 : Int32)), .val (.int (0 : Int32)), .val (.int (8 : Int32)), .unset, .unset] [(.int (32 : Int32)), (.int (8 : Int32))])) rfl (by rw [hml]; rfl) (argsL := [(.int (8 : Int32)), (.int (32 : Int32))]) (rest := []) (lenOf pd_1 rfl) rfl (by show 2 * 0 + _ ≤ _; exact Nat.le_of_eq rfl) (hb hby d7_68) (fun _ _ => ⟨rfl, e55, (by decide : 0 + 0 ≤ _), (by decide : 0 + 0 ≤ _)⟩)
  dsimp only [Pt.U, Pt.locs, Pt.cells, Pt.slots] at X56 l56 y56 z56 st56 hQ56
  subst l56 y56 z56
  obtain ⟨rfl, N56q, e56'⟩ := hQ56
  have N56 := Fr.app N53 N56q
  refine own_st ?_ st56
  show own_Fin _ _ _ _ T56 (mkF m 71 #[.val (.ref q1), .val (.int (32 : Int32)), .val (.ref q3), .val (.long (((8 : Int64) * (z_q1.toInt64)) - (0 : Int64))), .second, .val (.long (0 : Int64)), .second, .val (.int (32 : Int32)), .val (.int (0 : Int32)), .val (.int (8 : Int32)), .unset, .unset] [(.int (own_f9 (8 : Int32) (32 : Int32)))])
  rw [(by decide : own_f9 (8 : Int32) (32 : Int32) = (8 : Int32))]
  show own_Fin _ _ _ _ T56 (mkF m 71 #[.val (.ref q1), .val (.int (32 : Int32)), .val (.ref q3), .val (.long (((8 : Int64) * (z_q1.toInt64)) - (0 : Int64))), .second, .val (.long (0 : Int64)), .second, .val (.int (32 : Int32)), .val (.int (0 : Int32)), .val (.int (8 : Int32)), .unset, .unset] [(.int (8 : Int32))])
  refine own_istore X56 hx (hb hby d7_71) (pc' := 73) rfl (Ls' := #[.val (.ref q1), .val (.int (32 : Int32)), .val (.ref q3), .val (.long (((8 : Int64) * (z_q1.toInt64)) - (0 : Int64))), .second, .val (.long (0 : Int64)), .second, .val (.int (32 : Int32)), .val (.int (0 : Int32)), .val (.int (8 : Int32)), .val (.int (8 : Int32)), .unset]) rfl ?_
  refine own_aloadN X56 hx (hb hby d7_73) (pc' := 74) rfl rfl rfl ?_
  refine own_getF X56 hx hZ hown (hw _ (List.mem_of_getElem? (i := 11) rfl)) Via.refl e56' F_bytes_q1 (hb hby d7_74) (pc' := 77) rfl (fun T57 X57 e57 => ?_)
  refine own_iload X57 hx (hb hby d7_77) (pc' := 79) rfl rfl ?_
  obtain ⟨cl58, Ar58, qa58, S58, M58, H58, G58⟩ := id A_w_bytes_q1
  have hin58 : ¬ ((0 : Int32) < 0 ∨ cl58.slots.size ≤ ((0 : Int32)).toNatClampNeg) := inb_of S58 ⟨by decide, Int32.lt_of_le_of_lt (by decide) hz⟩
  refine own_st ?_ (fun t k => X57.baloadBytes hx (j := (0 : Int32)) (v := (.int w0_w_bytes_q1)) (by rw [e57]; exact Ar58.1) (State.isArrayOf_alike hZ.alike Ar58.2.1) Ar58.2.2 hin58 (Has.at H58 hin58 rfl) (g := (mkF m 79 #[.val (.ref q1), .val (.int (32 : Int32)), .val (.ref q3), .val (.long (((8 : Int64) * (z_q1.toInt64)) - (0 : Int64))), .second, .val (.long (0 : Int64)), .second, .val (.int (32 : Int32)), .val (.int (0 : Int32)), .val (.int (8 : Int32)), .val (.int (8 : Int32)), .unset] [(.int (0 : Int32)), (.ref w_bytes_q1)])) rfl rfl (hb hby d7_79) t k)
  show own_Fin _ _ _ _ T57 (mkF m 80 #[.val (.ref q1), .val (.int (32 : Int32)), .val (.ref q3), .val (.long (((8 : Int64) * (z_q1.toInt64)) - (0 : Int64))), .second, .val (.long (0 : Int64)), .second, .val (.int (32 : Int32)), .val (.int (0 : Int32)), .val (.int (8 : Int32)), .val (.int (8 : Int32)), .unset] [(.int w0_w_bytes_q1)])
  refine own_sipush X57 hx (hb hby d7_80) (pc' := 83) rfl (v := (255 : Int32)) rfl ?_
  refine own_iand X57 hx (hb hby d7_83) (pc' := 84) rfl ?_
  refine own_iload X57 hx (hb hby d7_84) (pc' := 86) rfl rfl ?_
  refine own_iload X57 hx (hb hby d7_86) (pc' := 88) rfl rfl ?_
  refine own_isub X57 hx (hb hby d7_88) (pc' := 89) rfl ?_
  show own_Fin _ _ _ _ T57 (mkF m 89 #[.val (.ref q1), .val (.int (32 : Int32)), .val (.ref q3), .val (.long (((8 : Int64) * (z_q1.toInt64)) - (0 : Int64))), .second, .val (.long (0 : Int64)), .second, .val (.int (32 : Int32)), .val (.int (0 : Int32)), .val (.int (8 : Int32)), .val (.int (8 : Int32)), .unset] [(.int (0 : Int32)), (.int (w0_w_bytes_q1 &&& (255 : Int32)))])
  refine own_iushr X57 hx (hb hby d7_89) (pc' := 90) rfl ?_
  refine own_iconst X57 hx (hb hby d7_90) (pc' := 91) rfl (v := (1 : Int32)) rfl ?_
  refine own_iload X57 hx (hb hby d7_91) (pc' := 93) rfl rfl ?_
  refine own_ishl X57 hx (hb hby d7_93) (pc' := 94) rfl ?_
  show own_Fin _ _ _ _ T57 (mkF m 94 #[.val (.ref q1), .val (.int (32 : Int32)), .val (.ref q3), .val (.long (((8 : Int64) * (z_q1.toInt64)) - (0 : Int64))), .second, .val (.long (0 : Int64)), .second, .val (.int (32 : Int32)), .val (.int (0 : Int32)), .val (.int (8 : Int32)), .val (.int (8 : Int32)), .unset] [(.int (256 : Int32)), (.int (own_ush32 (w0_w_bytes_q1 &&& (255 : Int32)) (0 : Int32)))])
  refine own_iconst X57 hx (hb hby d7_94) (pc' := 95) rfl (v := (1 : Int32)) rfl ?_
  refine own_isub X57 hx (hb hby d7_95) (pc' := 96) rfl ?_
  show own_Fin _ _ _ _ T57 (mkF m 96 #[.val (.ref q1), .val (.int (32 : Int32)), .val (.ref q3), .val (.long (((8 : Int64) * (z_q1.toInt64)) - (0 : Int64))), .second, .val (.long (0 : Int64)), .second, .val (.int (32 : Int32)), .val (.int (0 : Int32)), .val (.int (8 : Int32)), .val (.int (8 : Int32)), .unset] [(.int (255 : Int32)), (.int (own_ush32 (w0_w_bytes_q1 &&& (255 : Int32)) (0 : Int32)))])
  refine own_iand X57 hx (hb hby d7_96) (pc' := 97) rfl ?_
  refine own_istore X57 hx (hb hby d7_97) (pc' := 99) rfl (Ls' := #[.val (.ref q1), .val (.int (32 : Int32)), .val (.ref q3), .val (.long (((8 : Int64) * (z_q1.toInt64)) - (0 : Int64))), .second, .val (.long (0 : Int64)), .second, .val (.int (32 : Int32)), .val (.int (0 : Int32)), .val (.int (8 : Int32)), .val (.int (8 : Int32)), .val (.int ((own_ush32 (w0_w_bytes_q1 &&& (255 : Int32)) (0 : Int32)) &&& (255 : Int32)))]) rfl ?_
  refine own_lload X57 hx (hb hby d7_99) (pc' := 101) rfl rfl ?_
  refine own_iload X57 hx (hb hby d7_101) (pc' := 103) rfl rfl ?_
  refine own_lshl X57 hx (hb hby d7_103) (pc' := 104) rfl ?_
  show own_Fin _ _ _ _ T57 (mkF m 104 #[.val (.ref q1), .val (.int (32 : Int32)), .val (.ref q3), .val (.long (((8 : Int64) * (z_q1.toInt64)) - (0 : Int64))), .second, .val (.long (0 : Int64)), .second, .val (.int (32 : Int32)), .val (.int (0 : Int32)), .val (.int (8 : Int32)), .val (.int (8 : Int32)), .val (.int ((own_ush32 (w0_w_bytes_q1 &&& (255 : Int32)) (0 : Int32)) &&& (255 : Int32)))] [(.long (0 : Int64))])
  refine own_iload X57 hx (hb hby d7_104) (pc' := 106) rfl rfl ?_
  refine own_i2l X57 hx (hb hby d7_106) (pc' := 107) rfl ?_
  refine own_lor X57 hx (hb hby d7_107) (pc' := 108) rfl ?_
  refine own_lstore X57 hx (hb hby d7_108) (pc' := 110) rfl (Ls' := #[.val (.ref q1), .val (.int (32 : Int32)), .val (.ref q3), .val (.long (((8 : Int64) * (z_q1.toInt64)) - (0 : Int64))), .second, .val (.long ((0 : Int64) ||| (((own_ush32 (w0_w_bytes_q1 &&& (255 : Int32)) (0 : Int32)) &&& (255 : Int32)).toInt64))), .second, .val (.int (32 : Int32)), .val (.int (0 : Int32)), .val (.int (8 : Int32)), .val (.int (8 : Int32)), .val (.int ((own_ush32 (w0_w_bytes_q1 &&& (255 : Int32)) (0 : Int32)) &&& (255 : Int32)))]) rfl ?_
  refine own_aloadN X57 hx (hb hby d7_110) (pc' := 111) rfl rfl rfl ?_
  refine own_dup X57 hx (hb hby d7_111) (pc' := 112) rfl rfl ?_
  refine own_getF X57 hx hZ hown (hw _ (List.mem_of_getElem? (i := 18) rfl)) Via.refl e57 F_position_q1 (hb hby d7_112) (pc' := 115) rfl (fun T59 X59 e59 => ?_)
  refine own_iload X59 hx (hb hby d7_115) (pc' := 117) rfl rfl ?_
  refine own_i2l X59 hx (hb hby d7_117) (pc' := 118) rfl ?_
  show own_Fin _ _ _ _ T59 (mkF m 118 #[.val (.ref q1), .val (.int (32 : Int32)), .val (.ref q3), .val (.long (((8 : Int64) * (z_q1.toInt64)) - (0 : Int64))), .second, .val (.long ((0 : Int64) ||| (((own_ush32 (w0_w_bytes_q1 &&& (255 : Int32)) (0 : Int32)) &&& (255 : Int32)).toInt64))), .second, .val (.int (32 : Int32)), .val (.int (0 : Int32)), .val (.int (8 : Int32)), .val (.int (8 : Int32)), .val (.int ((own_ush32 (w0_w_bytes_q1 &&& (255 : Int32)) (0 : Int32)) &&& (255 : Int32)))] [(.long (8 : Int64)), (.long (0 : Int64)), (.ref q1)])
  refine own_ladd X59 hx (hb hby d7_118) (pc' := 119) rfl ?_
  show own_Fin _ _ _ _ T59 (mkF m 119 #[.val (.ref q1), .val (.int (32 : Int32)), .val (.ref q3), .val (.long (((8 : Int64) * (z_q1.toInt64)) - (0 : Int64))), .second, .val (.long ((0 : Int64) ||| (((own_ush32 (w0_w_bytes_q1 &&& (255 : Int32)) (0 : Int32)) &&& (255 : Int32)).toInt64))), .second, .val (.int (32 : Int32)), .val (.int (0 : Int32)), .val (.int (8 : Int32)), .val (.int (8 : Int32)), .val (.int ((own_ush32 (w0_w_bytes_q1 &&& (255 : Int32)) (0 : Int32)) &&& (255 : Int32)))] [(.long (8 : Int64)), (.ref q1)])
  obtain ⟨T60, h60, X60, e60, W60, st60⟩ := putF X59 hx hZ hown (host := "") (Or.inl (hw _ (List.mem_of_getElem? (i := 18) rfl))) Via.refl e59 F_position_q1 E_q1 (Or.inl (hw _ (List.mem_of_getElem? (i := 19) rfl))) (hw _ (List.mem_of_getElem? (i := 3) rfl)) (ty := .long) (by decide) rfl rfl (g := (mkF m 119 #[.val (.ref q1), .val (.int (32 : Int32)), .val (.ref q3), .val (.long (((8 : Int64) * (z_q1.toInt64)) - (0 : Int64))), .second, .val (.long ((0 : Int64) ||| (((own_ush32 (w0_w_bytes_q1 &&& (255 : Int32)) (0 : Int32)) &&& (255 : Int32)).toInt64))), .second, .val (.int (32 : Int32)), .val (.int (0 : Int32)), .val (.int (8 : Int32)), .val (.int (8 : Int32)), .val (.int ((own_ush32 (w0_w_bytes_q1 &&& (255 : Int32)) (0 : Int32)) &&& (255 : Int32)))] [(.long (8 : Int64)), (.ref q1)])) rfl rfl (hb hby d7_119)
  have E_q1_60 : Exa Z h60 q1 "com/example/typewire/typewire/packet/BitInput" := E_q1.wr W60
  have F_q1_bytes_60 : Fld Z h60 q1 "com/example/typewire/typewire/packet/BitInput" "bytes" "[B" (.ref w_bytes_q1) := F_bytes_q1.other W60 (Or.inr (slot_ne (Or.inr (hw _ (List.mem_of_getElem? (i := 12) rfl))) (Or.inl (hw _ (List.mem_of_getElem? (i := 19) rfl))) (by decide) (t := (.array .byte)) (t' := .long) (by decide) (by decide)))
  have F_q1_position_60 : Fld Z h60 q1 "com/example/typewire/typewire/packet/BitInput" "position" "J" (.long (8 : Int64)) := F_position_q1.same W60
  have A_w_bytes_q1_60 : Arv Z h60 w_bytes_q1 kc_w_bytes_q1 .byte z_q1 [(.int w0_w_bytes_q1), (.int w1_w_bytes_q1), (.int w2_w_bytes_q1), (.int w3_w_bytes_q1)] (.int (0 : Int32)) := A_w_bytes_q1.other W60 (Ne.symm ne_q1_w_bytes_q1)
  have N60 := Fr.snoc X60 N56 g_q1
  have sz60 : n0 ≤ h60.size := Nat.le_trans Z0 (Keep.of_wr W60).1
  have K60 : Keep h0 h60 [q1, w_bytes_q1] := K0.wr W60 (Or.inl (List.mem_of_getElem? (i := 0) rfl))
  refine own_st ?_ st60
  show own_Fin _ _ _ _ T60 (mkF m 122 #[.val (.ref q1), .val (.int (32 : Int32)), .val (.ref q3), .val (.long (((8 : Int64) * (z_q1.toInt64)) - (0 : Int64))), .second, .val (.long ((0 : Int64) ||| (((own_ush32 (w0_w_bytes_q1 &&& (255 : Int32)) (0 : Int32)) &&& (255 : Int32)).toInt64))), .second, .val (.int (32 : Int32)), .val (.int (0 : Int32)), .val (.int (8 : Int32)), .val (.int (8 : Int32)), .val (.int ((own_ush32 (w0_w_bytes_q1 &&& (255 : Int32)) (0 : Int32)) &&& (255 : Int32)))] [])
  refine own_iload X60 hx (hb hby d7_122) (pc' := 124) rfl rfl ?_
  refine own_iload X60 hx (hb hby d7_124) (pc' := 126) rfl rfl ?_
  refine own_isub X60 hx (hb hby d7_126) (pc' := 127) rfl ?_
  show own_Fin _ _ _ _ T60 (mkF m 127 #[.val (.ref q1), .val (.int (32 : Int32)), .val (.ref q3), .val (.long (((8 : Int64) * (z_q1.toInt64)) - (0 : Int64))), .second, .val (.long ((0 : Int64) ||| (((own_ush32 (w0_w_bytes_q1 &&& (255 : Int32)) (0 : Int32)) &&& (255 : Int32)).toInt64))), .second, .val (.int (32 : Int32)), .val (.int (0 : Int32)), .val (.int (8 : Int32)), .val (.int (8 : Int32)), .val (.int ((own_ush32 (w0_w_bytes_q1 &&& (255 : Int32)) (0 : Int32)) &&& (255 : Int32)))] [(.int (24 : Int32))])
  refine own_istore X60 hx (hb hby d7_127) (pc' := 129) rfl (Ls' := #[.val (.ref q1), .val (.int (32 : Int32)), .val (.ref q3), .val (.long (((8 : Int64) * (z_q1.toInt64)) - (0 : Int64))), .second, .val (.long ((0 : Int64) ||| (((own_ush32 (w0_w_bytes_q1 &&& (255 : Int32)) (0 : Int32)) &&& (255 : Int32)).toInt64))), .second, .val (.int (24 : Int32)), .val (.int (0 : Int32)), .val (.int (8 : Int32)), .val (.int (8 : Int32)), .val (.int ((own_ush32 (w0_w_bytes_q1 &&& (255 : Int32)) (0 : Int32)) &&& (255 : Int32)))]) rfl ?_
  refine own_goto X60 hx (hb hby d7_129) (pc' := 34) (by decide) (by decide) ?_
  refine own_iload X60 hx (hb hby d7_34) (pc' := 36) rfl rfl ?_
  refine own_ifNo X60 hx (hb hby d7_36) (pc' := 39) rfl ((if0 _ _).trans (tlt (by decide : (0 : Int32) < (24 : Int32))).2.2.2) ?_
  refine own_aloadN X60 hx (hb hby d7_39) (pc' := 40) rfl rfl rfl ?_
  refine own_getF X60 hx hZ hown (hw _ (List.mem_of_getElem? (i := 18) rfl)) Via.refl e60 F_q1_position_60 (hb hby d7_40) (pc' := 43) rfl (fun T61 X61 e61 => ?_)
  refine own_ldc2Long X61 hx hZ hown (hw _ (List.mem_of_getElem? (i := 20) rfl)) (hb hby d7_43) (pc' := 46) rfl ?_
  refine own_ldiv X61 hx (hb hby d7_46) (pc' := 47) rfl (by decide) ?_
  show own_Fin _ _ _ _ T61 (mkF m 47 #[.val (.ref q1), .val (.int (32 : Int32)), .val (.ref q3), .val (.long (((8 : Int64) * (z_q1.toInt64)) - (0 : Int64))), .second, .val (.long ((0 : Int64) ||| (((own_ush32 (w0_w_bytes_q1 &&& (255 : Int32)) (0 : Int32)) &&& (255 : Int32)).toInt64))), .second, .val (.int (24 : Int32)), .val (.int (0 : Int32)), .val (.int (8 : Int32)), .val (.int (8 : Int32)), .val (.int ((own_ush32 (w0_w_bytes_q1 &&& (255 : Int32)) (0 : Int32)) &&& (255 : Int32)))] [(.long (1 : Int64))])
  refine own_l2i X61 hx (hb hby d7_47) (pc' := 48) rfl ?_
  show own_Fin _ _ _ _ T61 (mkF m 48 #[.val (.ref q1), .val (.int (32 : Int32)), .val (.ref q3), .val (.long (((8 : Int64) * (z_q1.toInt64)) - (0 : Int64))), .second, .val (.long ((0 : Int64) ||| (((own_ush32 (w0_w_bytes_q1 &&& (255 : Int32)) (0 : Int32)) &&& (255 : Int32)).toInt64))), .second, .val (.int (24 : Int32)), .val (.int (0 : Int32)), .val (.int (8 : Int32)), .val (.int (8 : Int32)), .val (.int ((own_ush32 (w0_w_bytes_q1 &&& (255 : Int32)) (0 : Int32)) &&& (255 : Int32)))] [(.int (1 : Int32))])
  refine own_istore X61 hx (hb hby d7_48) (pc' := 50) rfl (Ls' := #[.val (.ref q1), .val (.int (32 : Int32)), .val (.ref q3), .val (.long (((8 : Int64) * (z_q1.toInt64)) - (0 : Int64))), .second, .val (.long ((0 : Int64) ||| (((own_ush32 (w0_w_bytes_q1 &&& (255 : Int32)) (0 : Int32)) &&& (255 : Int32)).toInt64))), .second, .val (.int (24 : Int32)), .val (.int (1 : Int32)), .val (.int (8 : Int32)), .val (.int (8 : Int32)), .val (.int ((own_ush32 (w0_w_bytes_q1 &&& (255 : Int32)) (0 : Int32)) &&& (255 : Int32)))]) rfl ?_
  refine own_bipush X61 hx (hb hby d7_50) (pc' := 52) rfl (v := (8 : Int32)) rfl ?_
  refine own_aloadN X61 hx (hb hby d7_52) (pc' := 53) rfl rfl rfl ?_
  refine own_getF X61 hx hZ hown (hw _ (List.mem_of_getElem? (i := 18) rfl)) Via.refl e61 F_q1_position_60 (hb hby d7_53) (pc' := 56) rfl (fun T62 X62 e62 => ?_)
  refine own_ldc2Long X62 hx hZ hown (hw _ (List.mem_of_getElem? (i := 20) rfl)) (hb hby d7_56) (pc' := 59) rfl ?_
  refine own_lrem X62 hx (hb hby d7_59) (pc' := 60) rfl (by decide) ?_
  show own_Fin _ _ _ _ T62 (mkF m 60 #[.val (.ref q1), .val (.int (32 : Int32)), .val (.ref q3), .val (.long (((8 : Int64) * (z_q1.toInt64)) - (0 : Int64))), .second, .val (.long ((0 : Int64) ||| (((own_ush32 (w0_w_bytes_q1 &&& (255 : Int32)) (0 : Int32)) &&& (255 : Int32)).toInt64))), .second, .val (.int (24 : Int32)), .val (.int (1 : Int32)), .val (.int (8 : Int32)), .val (.int (8 : Int32)), .val (.int ((own_ush32 (w0_w_bytes_q1 &&& (255 : Int32)) (0 : Int32)) &&& (255 : Int32)))] [(.long (0 : Int64)), (.int (8 : Int32))])
  refine own_l2i X62 hx (hb hby d7_60) (pc' := 61) rfl ?_
  show own_Fin _ _ _ _ T62 (mkF m 61 #[.val (.ref q1), .val (.int (32 : Int32)), .val (.ref q3), .val (.long (((8 : Int64) * (z_q1.toInt64)) - (0 : Int64))), .second, .val (.long ((0 : Int64) ||| (((own_ush32 (w0_w_bytes_q1 &&& (255 : Int32)) (0 : Int32)) &&& (255 : Int32)).toInt64))), .second, .val (.int (24 : Int32)), .val (.int (1 : Int32)), .val (.int (8 : Int32)), .val (.int (8 : Int32)), .val (.int ((own_ush32 (w0_w_bytes_q1 &&& (255 : Int32)) (0 : Int32)) &&& (255 : Int32)))] [(.int (0 : Int32)), (.int (8 : Int32))])
  refine own_isub X62 hx (hb hby d7_61) (pc' := 62) rfl ?_
  show own_Fin _ _ _ _ T62 (mkF m 62 #[.val (.ref q1), .val (.int (32 : Int32)), .val (.ref q3), .val (.long (((8 : Int64) * (z_q1.toInt64)) - (0 : Int64))), .second, .val (.long ((0 : Int64) ||| (((own_ush32 (w0_w_bytes_q1 &&& (255 : Int32)) (0 : Int32)) &&& (255 : Int32)).toInt64))), .second, .val (.int (24 : Int32)), .val (.int (1 : Int32)), .val (.int (8 : Int32)), .val (.int (8 : Int32)), .val (.int ((own_ush32 (w0_w_bytes_q1 &&& (255 : Int32)) (0 : Int32)) &&& (255 : Int32)))] [(.int (8 : Int32))])
  refine own_istore X62 hx (hb hby d7_62) (pc' := 64) rfl (Ls' := #[.val (.ref q1), .val (.int (32 : Int32)), .val (.ref q3), .val (.long (((8 : Int64) * (z_q1.toInt64)) - (0 : Int64))), .second, .val (.long ((0 : Int64) ||| (((own_ush32 (w0_w_bytes_q1 &&& (255 : Int32)) (0 : Int32)) &&& (255 : Int32)).toInt64))), .second, .val (.int (24 : Int32)), .val (.int (1 : Int32)), .val (.int (8 : Int32)), .val (.int (8 : Int32)), .val (.int ((own_ush32 (w0_w_bytes_q1 &&& (255 : Int32)) (0 : Int32)) &&& (255 : Int32)))]) rfl ?_
  refine own_iload X62 hx (hb hby d7_64) (pc' := 66) rfl rfl ?_
  refine own_iload X62 hx (hb hby d7_66) (pc' := 68) rfl rfl ?_
  obtain ⟨_, _, ⟨T63, L63, k63, n63⟩, -, X63, ⟨Lc63, hQ63, l63, y63, z63⟩, st63⟩ := Jvm.LawKit.callS X62 hx (y := (⟨"java/lang/Math", "min", "(II)I"⟩ : MethodName)) hown (mvT hZ (hw _ (List.mem_of_getElem? (i := 52) rfl))) (mvT hZ (hw _ (List.mem_of_getElem? (i := 53) rfl))) (mvT hZ (hw _ (List.mem_of_getElem? (i := 54) rfl))) (mvT hZ (hw _ (List.mem_of_getElem? (i := 55) rfl))) (by decide) (backOf (W := 0) (rm9 l Z a0 hw [] (8 : Int32) (24 : Int32) h60 n0 sz60 ) hZ (hw _ (List.mem_of_getElem? (i := 55) rfl)) (hw _ (List.mem_of_getElem? (i := 54) rfl)) (by decide) (by decide)) (g := (mkF m 68 #[.val (.ref q1), .val (.int (32 : Int32)), .val (.ref q3), .val (.long (((8 : Int64) * (z_q1.toInt64)) - (0 : Int64))), .second, .val (.long ((0 : Int64) ||| (((own_ush32 (w0_w_bytes_q1 &&& (255 : Int32)) (0 : Int32)) &&& (255 : Int32)).toInt64))), .second, .val (.int (24 : Int32)), .val (.int (1 : Int32)), .val (.int (8 : Int32)), .val (.int (8 : Int32)), .val (.int ((own_ush32 (w0_w_bytes_q1 &&& (255 : Int32)) (0 : Int32)) &&& (255 : Int32)))] [(.int (24 : Int32)), (.int (8 : Int32))])) rfl (by rw [hml]; rfl) (argsL := [(.int (8 : Int32)), (.int (24 : Int32))]) (rest := []) (lenOf pd_1 rfl) rfl (by show 2 * 0 + _ ≤ _; exact Nat.le_of_eq rfl) (hb hby d7_68) (fun _ _ => ⟨rfl, e62, (by decide : 0 + 0 ≤ _), (by decide : 0 + 0 ≤ _)⟩)
  dsimp only [Pt.U, Pt.locs, Pt.cells, Pt.slots] at X63 l63 y63 z63 st63 hQ63
  subst l63 y63 z63
  obtain ⟨rfl, N63q, e63'⟩ := hQ63
  have N63 := Fr.app N60 N63q
  refine own_st ?_ st63
  show own_Fin _ _ _ _ T63 (mkF m 71 #[.val (.ref q1), .val (.int (32 : Int32)), .val (.ref q3), .val (.long (((8 : Int64) * (z_q1.toInt64)) - (0 : Int64))), .second, .val (.long ((0 : Int64) ||| (((own_ush32 (w0_w_bytes_q1 &&& (255 : Int32)) (0 : Int32)) &&& (255 : Int32)).toInt64))), .second, .val (.int (24 : Int32)), .val (.int (1 : Int32)), .val (.int (8 : Int32)), .val (.int (8 : Int32)), .val (.int ((own_ush32 (w0_w_bytes_q1 &&& (255 : Int32)) (0 : Int32)) &&& (255 : Int32)))] [(.int (own_f9 (8 : Int32) (24 : Int32)))])
  rw [(by decide : own_f9 (8 : Int32) (24 : Int32) = (8 : Int32))]
  show own_Fin _ _ _ _ T63 (mkF m 71 #[.val (.ref q1), .val (.int (32 : Int32)), .val (.ref q3), .val (.long (((8 : Int64) * (z_q1.toInt64)) - (0 : Int64))), .second, .val (.long ((0 : Int64) ||| (((own_ush32 (w0_w_bytes_q1 &&& (255 : Int32)) (0 : Int32)) &&& (255 : Int32)).toInt64))), .second, .val (.int (24 : Int32)), .val (.int (1 : Int32)), .val (.int (8 : Int32)), .val (.int (8 : Int32)), .val (.int ((own_ush32 (w0_w_bytes_q1 &&& (255 : Int32)) (0 : Int32)) &&& (255 : Int32)))] [(.int (8 : Int32))])
  refine own_istore X63 hx (hb hby d7_71) (pc' := 73) rfl (Ls' := #[.val (.ref q1), .val (.int (32 : Int32)), .val (.ref q3), .val (.long (((8 : Int64) * (z_q1.toInt64)) - (0 : Int64))), .second, .val (.long ((0 : Int64) ||| (((own_ush32 (w0_w_bytes_q1 &&& (255 : Int32)) (0 : Int32)) &&& (255 : Int32)).toInt64))), .second, .val (.int (24 : Int32)), .val (.int (1 : Int32)), .val (.int (8 : Int32)), .val (.int (8 : Int32)), .val (.int ((own_ush32 (w0_w_bytes_q1 &&& (255 : Int32)) (0 : Int32)) &&& (255 : Int32)))]) rfl ?_
  refine own_aloadN X63 hx (hb hby d7_73) (pc' := 74) rfl rfl rfl ?_
  refine own_getF X63 hx hZ hown (hw _ (List.mem_of_getElem? (i := 11) rfl)) Via.refl e63' F_q1_bytes_60 (hb hby d7_74) (pc' := 77) rfl (fun T64 X64 e64 => ?_)
  refine own_iload X64 hx (hb hby d7_77) (pc' := 79) rfl rfl ?_
  obtain ⟨cl65, Ar65, qa65, S65, M65, H65, G65⟩ := id A_w_bytes_q1_60
  have hin65 : ¬ ((1 : Int32) < 0 ∨ cl65.slots.size ≤ ((1 : Int32)).toNatClampNeg) := inb_of S65 ⟨by decide, Int32.lt_of_le_of_lt (by decide) hz⟩
  refine own_st ?_ (fun t k => X64.baloadBytes hx (j := (1 : Int32)) (v := (.int w1_w_bytes_q1)) (by rw [e64]; exact Ar65.1) (State.isArrayOf_alike hZ.alike Ar65.2.1) Ar65.2.2 hin65 (Has.at H65 hin65 rfl) (g := (mkF m 79 #[.val (.ref q1), .val (.int (32 : Int32)), .val (.ref q3), .val (.long (((8 : Int64) * (z_q1.toInt64)) - (0 : Int64))), .second, .val (.long ((0 : Int64) ||| (((own_ush32 (w0_w_bytes_q1 &&& (255 : Int32)) (0 : Int32)) &&& (255 : Int32)).toInt64))), .second, .val (.int (24 : Int32)), .val (.int (1 : Int32)), .val (.int (8 : Int32)), .val (.int (8 : Int32)), .val (.int ((own_ush32 (w0_w_bytes_q1 &&& (255 : Int32)) (0 : Int32)) &&& (255 : Int32)))] [(.int (1 : Int32)), (.ref w_bytes_q1)])) rfl rfl (hb hby d7_79) t k)
  show own_Fin _ _ _ _ T64 (mkF m 80 #[.val (.ref q1), .val (.int (32 : Int32)), .val (.ref q3), .val (.long (((8 : Int64) * (z_q1.toInt64)) - (0 : Int64))), .second, .val (.long ((0 : Int64) ||| (((own_ush32 (w0_w_bytes_q1 &&& (255 : Int32)) (0 : Int32)) &&& (255 : Int32)).toInt64))), .second, .val (.int (24 : Int32)), .val (.int (1 : Int32)), .val (.int (8 : Int32)), .val (.int (8 : Int32)), .val (.int ((own_ush32 (w0_w_bytes_q1 &&& (255 : Int32)) (0 : Int32)) &&& (255 : Int32)))] [(.int w1_w_bytes_q1)])
  refine own_sipush X64 hx (hb hby d7_80) (pc' := 83) rfl (v := (255 : Int32)) rfl ?_
  refine own_iand X64 hx (hb hby d7_83) (pc' := 84) rfl ?_
  refine own_iload X64 hx (hb hby d7_84) (pc' := 86) rfl rfl ?_
  refine own_iload X64 hx (hb hby d7_86) (pc' := 88) rfl rfl ?_
  refine own_isub X64 hx (hb hby d7_88) (pc' := 89) rfl ?_
  show own_Fin _ _ _ _ T64 (mkF m 89 #[.val (.ref q1), .val (.int (32 : Int32)), .val (.ref q3), .val (.long (((8 : Int64) * (z_q1.toInt64)) - (0 : Int64))), .second, .val (.long ((0 : Int64) ||| (((own_ush32 (w0_w_bytes_q1 &&& (255 : Int32)) (0 : Int32)) &&& (255 : Int32)).toInt64))), .second, .val (.int (24 : Int32)), .val (.int (1 : Int32)), .val (.int (8 : Int32)), .val (.int (8 : Int32)), .val (.int ((own_ush32 (w0_w_bytes_q1 &&& (255 : Int32)) (0 : Int32)) &&& (255 : Int32)))] [(.int (0 : Int32)), (.int (w1_w_bytes_q1 &&& (255 : Int32)))])
  refine own_iushr X64 hx (hb hby d7_89) (pc' := 90) rfl ?_
  refine own_iconst X64 hx (hb hby d7_90) (pc' := 91) rfl (v := (1 : Int32)) rfl ?_
  refine own_iload X64 hx (hb hby d7_91) (pc' := 93) rfl rfl ?_
  refine own_ishl X64 hx (hb hby d7_93) (pc' := 94) rfl ?_
  show own_Fin _ _ _ _ T64 (mkF m 94 #[.val (.ref q1), .val (.int (32 : Int32)), .val (.ref q3), .val (.long (((8 : Int64) * (z_q1.toInt64)) - (0 : Int64))), .second, .val (.long ((0 : Int64) ||| (((own_ush32 (w0_w_bytes_q1 &&& (255 : Int32)) (0 : Int32)) &&& (255 : Int32)).toInt64))), .second, .val (.int (24 : Int32)), .val (.int (1 : Int32)), .val (.int (8 : Int32)), .val (.int (8 : Int32)), .val (.int ((own_ush32 (w0_w_bytes_q1 &&& (255 : Int32)) (0 : Int32)) &&& (255 : Int32)))] [(.int (256 : Int32)), (.int (own_ush32 (w1_w_bytes_q1 &&& (255 : Int32)) (0 : Int32)))])
  refine own_iconst X64 hx (hb hby d7_94) (pc' := 95) rfl (v := (1 : Int32)) rfl ?_
  refine own_isub X64 hx (hb hby d7_95) (pc' := 96) rfl ?_
  show own_Fin _ _ _ _ T64 (mkF m 96 #[.val (.ref q1), .val (.int (32 : Int32)), .val (.ref q3), .val (.long (((8 : Int64) * (z_q1.toInt64)) - (0 : Int64))), .second, .val (.long ((0 : Int64) ||| (((own_ush32 (w0_w_bytes_q1 &&& (255 : Int32)) (0 : Int32)) &&& (255 : Int32)).toInt64))), .second, .val (.int (24 : Int32)), .val (.int (1 : Int32)), .val (.int (8 : Int32)), .val (.int (8 : Int32)), .val (.int ((own_ush32 (w0_w_bytes_q1 &&& (255 : Int32)) (0 : Int32)) &&& (255 : Int32)))] [(.int (255 : Int32)), (.int (own_ush32 (w1_w_bytes_q1 &&& (255 : Int32)) (0 : Int32)))])
  refine own_iand X64 hx (hb hby d7_96) (pc' := 97) rfl ?_
  refine own_istore X64 hx (hb hby d7_97) (pc' := 99) rfl (Ls' := #[.val (.ref q1), .val (.int (32 : Int32)), .val (.ref q3), .val (.long (((8 : Int64) * (z_q1.toInt64)) - (0 : Int64))), .second, .val (.long ((0 : Int64) ||| (((own_ush32 (w0_w_bytes_q1 &&& (255 : Int32)) (0 : Int32)) &&& (255 : Int32)).toInt64))), .second, .val (.int (24 : Int32)), .val (.int (1 : Int32)), .val (.int (8 : Int32)), .val (.int (8 : Int32)), .val (.int ((own_ush32 (w1_w_bytes_q1 &&& (255 : Int32)) (0 : Int32)) &&& (255 : Int32)))]) rfl ?_
  refine own_lload X64 hx (hb hby d7_99) (pc' := 101) rfl rfl ?_
  refine own_iload X64 hx (hb hby d7_101) (pc' := 103) rfl rfl ?_
  refine own_lshl X64 hx (hb hby d7_103) (pc' := 104) rfl ?_
  refine own_iload X64 hx (hb hby d7_104) (pc' := 106) rfl rfl ?_
  refine own_i2l X64 hx (hb hby d7_106) (pc' := 107) rfl ?_
  refine own_lor X64 hx (hb hby d7_107) (pc' := 108) rfl ?_
  refine own_lstore X64 hx (hb hby d7_108) (pc' := 110) rfl (Ls' := #[.val (.ref q1), .val (.int (32 : Int32)), .val (.ref q3), .val (.long (((8 : Int64) * (z_q1.toInt64)) - (0 : Int64))), .second, .val (.long ((((0 : Int64) ||| (((own_ush32 (w0_w_bytes_q1 &&& (255 : Int32)) (0 : Int32)) &&& (255 : Int32)).toInt64)) <<< ((8 : Int32) &&& 63).toInt64) ||| (((own_ush32 (w1_w_bytes_q1 &&& (255 : Int32)) (0 : Int32)) &&& (255 : Int32)).toInt64))), .second, .val (.int (24 : Int32)), .val (.int (1 : Int32)), .val (.int (8 : Int32)), .val (.int (8 : Int32)), .val (.int ((own_ush32 (w1_w_bytes_q1 &&& (255 : Int32)) (0 : Int32)) &&& (255 : Int32)))]) rfl ?_
  refine own_aloadN X64 hx (hb hby d7_110) (pc' := 111) rfl rfl rfl ?_
  refine own_dup X64 hx (hb hby d7_111) (pc' := 112) rfl rfl ?_
  refine own_getF X64 hx hZ hown (hw _ (List.mem_of_getElem? (i := 18) rfl)) Via.refl e64 F_q1_position_60 (hb hby d7_112) (pc' := 115) rfl (fun T66 X66 e66 => ?_)
  refine own_iload X66 hx (hb hby d7_115) (pc' := 117) rfl rfl ?_
  refine own_i2l X66 hx (hb hby d7_117) (pc' := 118) rfl ?_
  show own_Fin _ _ _ _ T66 (mkF m 118 #[.val (.ref q1), .val (.int (32 : Int32)), .val (.ref q3), .val (.long (((8 : Int64) * (z_q1.toInt64)) - (0 : Int64))), .second, .val (.long ((((0 : Int64) ||| (((own_ush32 (w0_w_bytes_q1 &&& (255 : Int32)) (0 : Int32)) &&& (255 : Int32)).toInt64)) <<< ((8 : Int32) &&& 63).toInt64) ||| (((own_ush32 (w1_w_bytes_q1 &&& (255 : Int32)) (0 : Int32)) &&& (255 : Int32)).toInt64))), .second, .val (.int (24 : Int32)), .val (.int (1 : Int32)), .val (.int (8 : Int32)), .val (.int (8 : Int32)), .val (.int ((own_ush32 (w1_w_bytes_q1 &&& (255 : Int32)) (0 : Int32)) &&& (255 : Int32)))] [(.long (8 : Int64)), (.long (8 : Int64)), (.ref q1)])
  refine own_ladd X66 hx (hb hby d7_118) (pc' := 119) rfl ?_
  show own_Fin _ _ _ _ T66 (mkF m 119 #[.val (.ref q1), .val (.int (32 : Int32)), .val (.ref q3), .val (.long (((8 : Int64) * (z_q1.toInt64)) - (0 : Int64))), .second, .val (.long ((((0 : Int64) ||| (((own_ush32 (w0_w_bytes_q1 &&& (255 : Int32)) (0 : Int32)) &&& (255 : Int32)).toInt64)) <<< ((8 : Int32) &&& 63).toInt64) ||| (((own_ush32 (w1_w_bytes_q1 &&& (255 : Int32)) (0 : Int32)) &&& (255 : Int32)).toInt64))), .second, .val (.int (24 : Int32)), .val (.int (1 : Int32)), .val (.int (8 : Int32)), .val (.int (8 : Int32)), .val (.int ((own_ush32 (w1_w_bytes_q1 &&& (255 : Int32)) (0 : Int32)) &&& (255 : Int32)))] [(.long (16 : Int64)), (.ref q1)])
  obtain ⟨T67, h67, X67, e67, W67, st67⟩ := putF X66 hx hZ hown (host := "") (Or.inl (hw _ (List.mem_of_getElem? (i := 18) rfl))) Via.refl e66 F_q1_position_60 E_q1_60 (Or.inl (hw _ (List.mem_of_getElem? (i := 19) rfl))) (hw _ (List.mem_of_getElem? (i := 3) rfl)) (ty := .long) (by decide) rfl rfl (g := (mkF m 119 #[.val (.ref q1), .val (.int (32 : Int32)), .val (.ref q3), .val (.long (((8 : Int64) * (z_q1.toInt64)) - (0 : Int64))), .second, .val (.long ((((0 : Int64) ||| (((own_ush32 (w0_w_bytes_q1 &&& (255 : Int32)) (0 : Int32)) &&& (255 : Int32)).toInt64)) <<< ((8 : Int32) &&& 63).toInt64) ||| (((own_ush32 (w1_w_bytes_q1 &&& (255 : Int32)) (0 : Int32)) &&& (255 : Int32)).toInt64))), .second, .val (.int (24 : Int32)), .val (.int (1 : Int32)), .val (.int (8 : Int32)), .val (.int (8 : Int32)), .val (.int ((own_ush32 (w1_w_bytes_q1 &&& (255 : Int32)) (0 : Int32)) &&& (255 : Int32)))] [(.long (16 : Int64)), (.ref q1)])) rfl rfl (hb hby d7_119)
  have E_q1_67 : Exa Z h67 q1 "com/example/typewire/typewire/packet/BitInput" := E_q1_60.wr W67
  have F_q1_bytes_67 : Fld Z h67 q1 "com/example/typewire/typewire/packet/BitInput" "bytes" "[B" (.ref w_bytes_q1) := F_q1_bytes_60.other W67 (Or.inr (slot_ne (Or.inr (hw _ (List.mem_of_getElem? (i := 12) rfl))) (Or.inl (hw _ (List.mem_of_getElem? (i := 19) rfl))) (by decide) (t := (.array .byte)) (t' := .long) (by decide) (by decide)))
  have F_q1_position_67 : Fld Z h67 q1 "com/example/typewire/typewire/packet/BitInput" "position" "J" (.long (16 : Int64)) := F_q1_position_60.same W67
  have A_w_bytes_q1_67 : Arv Z h67 w_bytes_q1 kc_w_bytes_q1 .byte z_q1 [(.int w0_w_bytes_q1), (.int w1_w_bytes_q1), (.int w2_w_bytes_q1), (.int w3_w_bytes_q1)] (.int (0 : Int32)) := A_w_bytes_q1_60.other W67 (Ne.symm ne_q1_w_bytes_q1)
  have N67 := Fr.snoc X67 N63 g_q1
  have sz67 : n0 ≤ h67.size := Nat.le_trans sz60 (Keep.of_wr W67).1
  have K67 : Keep h0 h67 [q1, w_bytes_q1] := K60.wr W67 (Or.inl (List.mem_of_getElem? (i := 0) rfl))
  refine own_st ?_ st67
  show own_Fin _ _ _ _ T67 (mkF m 122 #[.val (.ref q1), .val (.int (32 : Int32)), .val (.ref q3), .val (.long (((8 : Int64) * (z_q1.toInt64)) - (0 : Int64))), .second, .val (.long ((((0 : Int64) ||| (((own_ush32 (w0_w_bytes_q1 &&& (255 : Int32)) (0 : Int32)) &&& (255 : Int32)).toInt64)) <<< ((8 : Int32) &&& 63).toInt64) ||| (((own_ush32 (w1_w_bytes_q1 &&& (255 : Int32)) (0 : Int32)) &&& (255 : Int32)).toInt64))), .second, .val (.int (24 : Int32)), .val (.int (1 : Int32)), .val (.int (8 : Int32)), .val (.int (8 : Int32)), .val (.int ((own_ush32 (w1_w_bytes_q1 &&& (255 : Int32)) (0 : Int32)) &&& (255 : Int32)))] [])
  refine own_iload X67 hx (hb hby d7_122) (pc' := 124) rfl rfl ?_
  refine own_iload X67 hx (hb hby d7_124) (pc' := 126) rfl rfl ?_
  refine own_isub X67 hx (hb hby d7_126) (pc' := 127) rfl ?_
  show own_Fin _ _ _ _ T67 (mkF m 127 #[.val (.ref q1), .val (.int (32 : Int32)), .val (.ref q3), .val (.long (((8 : Int64) * (z_q1.toInt64)) - (0 : Int64))), .second, .val (.long ((((0 : Int64) ||| (((own_ush32 (w0_w_bytes_q1 &&& (255 : Int32)) (0 : Int32)) &&& (255 : Int32)).toInt64)) <<< ((8 : Int32) &&& 63).toInt64) ||| (((own_ush32 (w1_w_bytes_q1 &&& (255 : Int32)) (0 : Int32)) &&& (255 : Int32)).toInt64))), .second, .val (.int (24 : Int32)), .val (.int (1 : Int32)), .val (.int (8 : Int32)), .val (.int (8 : Int32)), .val (.int ((own_ush32 (w1_w_bytes_q1 &&& (255 : Int32)) (0 : Int32)) &&& (255 : Int32)))] [(.int (16 : Int32))])
  refine own_istore X67 hx (hb hby d7_127) (pc' := 129) rfl (Ls' := #[.val (.ref q1), .val (.int (32 : Int32)), .val (.ref q3), .val (.long (((8 : Int64) * (z_q1.toInt64)) - (0 : Int64))), .second, .val (.long ((((0 : Int64) ||| (((own_ush32 (w0_w_bytes_q1 &&& (255 : Int32)) (0 : Int32)) &&& (255 : Int32)).toInt64)) <<< ((8 : Int32) &&& 63).toInt64) ||| (((own_ush32 (w1_w_bytes_q1 &&& (255 : Int32)) (0 : Int32)) &&& (255 : Int32)).toInt64))), .second, .val (.int (16 : Int32)), .val (.int (1 : Int32)), .val (.int (8 : Int32)), .val (.int (8 : Int32)), .val (.int ((own_ush32 (w1_w_bytes_q1 &&& (255 : Int32)) (0 : Int32)) &&& (255 : Int32)))]) rfl ?_
  refine own_goto X67 hx (hb hby d7_129) (pc' := 34) (by decide) (by decide) ?_
  refine own_iload X67 hx (hb hby d7_34) (pc' := 36) rfl rfl ?_
  refine own_ifNo X67 hx (hb hby d7_36) (pc' := 39) rfl ((if0 _ _).trans (tlt (by decide : (0 : Int32) < (16 : Int32))).2.2.2) ?_
  refine own_aloadN X67 hx (hb hby d7_39) (pc' := 40) rfl rfl rfl ?_
  refine own_getF X67 hx hZ hown (hw _ (List.mem_of_getElem? (i := 18) rfl)) Via.refl e67 F_q1_position_67 (hb hby d7_40) (pc' := 43) rfl (fun T68 X68 e68 => ?_)
  refine own_ldc2Long X68 hx hZ hown (hw _ (List.mem_of_getElem? (i := 20) rfl)) (hb hby d7_43) (pc' := 46) rfl ?_
  refine own_ldiv X68 hx (hb hby d7_46) (pc' := 47) rfl (by decide) ?_
  show own_Fin _ _ _ _ T68 (mkF m 47 #[.val (.ref q1), .val (.int (32 : Int32)), .val (.ref q3), .val (.long (((8 : Int64) * (z_q1.toInt64)) - (0 : Int64))), .second, .val (.long ((((0 : Int64) ||| (((own_ush32 (w0_w_bytes_q1 &&& (255 : Int32)) (0 : Int32)) &&& (255 : Int32)).toInt64)) <<< ((8 : Int32) &&& 63).toInt64) ||| (((own_ush32 (w1_w_bytes_q1 &&& (255 : Int32)) (0 : Int32)) &&& (255 : Int32)).toInt64))), .second, .val (.int (16 : Int32)), .val (.int (1 : Int32)), .val (.int (8 : Int32)), .val (.int (8 : Int32)), .val (.int ((own_ush32 (w1_w_bytes_q1 &&& (255 : Int32)) (0 : Int32)) &&& (255 : Int32)))] [(.long (2 : Int64))])
  refine own_l2i X68 hx (hb hby d7_47) (pc' := 48) rfl ?_
  show own_Fin _ _ _ _ T68 (mkF m 48 #[.val (.ref q1), .val (.int (32 : Int32)), .val (.ref q3), .val (.long (((8 : Int64) * (z_q1.toInt64)) - (0 : Int64))), .second, .val (.long ((((0 : Int64) ||| (((own_ush32 (w0_w_bytes_q1 &&& (255 : Int32)) (0 : Int32)) &&& (255 : Int32)).toInt64)) <<< ((8 : Int32) &&& 63).toInt64) ||| (((own_ush32 (w1_w_bytes_q1 &&& (255 : Int32)) (0 : Int32)) &&& (255 : Int32)).toInt64))), .second, .val (.int (16 : Int32)), .val (.int (1 : Int32)), .val (.int (8 : Int32)), .val (.int (8 : Int32)), .val (.int ((own_ush32 (w1_w_bytes_q1 &&& (255 : Int32)) (0 : Int32)) &&& (255 : Int32)))] [(.int (2 : Int32))])
  refine own_istore X68 hx (hb hby d7_48) (pc' := 50) rfl (Ls' := #[.val (.ref q1), .val (.int (32 : Int32)), .val (.ref q3), .val (.long (((8 : Int64) * (z_q1.toInt64)) - (0 : Int64))), .second, .val (.long ((((0 : Int64) ||| (((own_ush32 (w0_w_bytes_q1 &&& (255 : Int32)) (0 : Int32)) &&& (255 : Int32)).toInt64)) <<< ((8 : Int32) &&& 63).toInt64) ||| (((own_ush32 (w1_w_bytes_q1 &&& (255 : Int32)) (0 : Int32)) &&& (255 : Int32)).toInt64))), .second, .val (.int (16 : Int32)), .val (.int (2 : Int32)), .val (.int (8 : Int32)), .val (.int (8 : Int32)), .val (.int ((own_ush32 (w1_w_bytes_q1 &&& (255 : Int32)) (0 : Int32)) &&& (255 : Int32)))]) rfl ?_
  refine own_bipush X68 hx (hb hby d7_50) (pc' := 52) rfl (v := (8 : Int32)) rfl ?_
  refine own_aloadN X68 hx (hb hby d7_52) (pc' := 53) rfl rfl rfl ?_
  refine own_getF X68 hx hZ hown (hw _ (List.mem_of_getElem? (i := 18) rfl)) Via.refl e68 F_q1_position_67 (hb hby d7_53) (pc' := 56) rfl (fun T69 X69 e69 => ?_)
  refine own_ldc2Long X69 hx hZ hown (hw _ (List.mem_of_getElem? (i := 20) rfl)) (hb hby d7_56) (pc' := 59) rfl ?_
  refine own_lrem X69 hx (hb hby d7_59) (pc' := 60) rfl (by decide) ?_
  show own_Fin _ _ _ _ T69 (mkF m 60 #[.val (.ref q1), .val (.int (32 : Int32)), .val (.ref q3), .val (.long (((8 : Int64) * (z_q1.toInt64)) - (0 : Int64))), .second, .val (.long ((((0 : Int64) ||| (((own_ush32 (w0_w_bytes_q1 &&& (255 : Int32)) (0 : Int32)) &&& (255 : Int32)).toInt64)) <<< ((8 : Int32) &&& 63).toInt64) ||| (((own_ush32 (w1_w_bytes_q1 &&& (255 : Int32)) (0 : Int32)) &&& (255 : Int32)).toInt64))), .second, .val (.int (16 : Int32)), .val (.int (2 : Int32)), .val (.int (8 : Int32)), .val (.int (8 : Int32)), .val (.int ((own_ush32 (w1_w_bytes_q1 &&& (255 : Int32)) (0 : Int32)) &&& (255 : Int32)))] [(.long (0 : Int64)), (.int (8 : Int32))])
  refine own_l2i X69 hx (hb hby d7_60) (pc' := 61) rfl ?_
  show own_Fin _ _ _ _ T69 (mkF m 61 #[.val (.ref q1), .val (.int (32 : Int32)), .val (.ref q3), .val (.long (((8 : Int64) * (z_q1.toInt64)) - (0 : Int64))), .second, .val (.long ((((0 : Int64) ||| (((own_ush32 (w0_w_bytes_q1 &&& (255 : Int32)) (0 : Int32)) &&& (255 : Int32)).toInt64)) <<< ((8 : Int32) &&& 63).toInt64) ||| (((own_ush32 (w1_w_bytes_q1 &&& (255 : Int32)) (0 : Int32)) &&& (255 : Int32)).toInt64))), .second, .val (.int (16 : Int32)), .val (.int (2 : Int32)), .val (.int (8 : Int32)), .val (.int (8 : Int32)), .val (.int ((own_ush32 (w1_w_bytes_q1 &&& (255 : Int32)) (0 : Int32)) &&& (255 : Int32)))] [(.int (0 : Int32)), (.int (8 : Int32))])
  refine own_isub X69 hx (hb hby d7_61) (pc' := 62) rfl ?_
  show own_Fin _ _ _ _ T69 (mkF m 62 #[.val (.ref q1), .val (.int (32 : Int32)), .val (.ref q3), .val (.long (((8 : Int64) * (z_q1.toInt64)) - (0 : Int64))), .second, .val (.long ((((0 : Int64) ||| (((own_ush32 (w0_w_bytes_q1 &&& (255 : Int32)) (0 : Int32)) &&& (255 : Int32)).toInt64)) <<< ((8 : Int32) &&& 63).toInt64) ||| (((own_ush32 (w1_w_bytes_q1 &&& (255 : Int32)) (0 : Int32)) &&& (255 : Int32)).toInt64))), .second, .val (.int (16 : Int32)), .val (.int (2 : Int32)), .val (.int (8 : Int32)), .val (.int (8 : Int32)), .val (.int ((own_ush32 (w1_w_bytes_q1 &&& (255 : Int32)) (0 : Int32)) &&& (255 : Int32)))] [(.int (8 : Int32))])
  refine own_istore X69 hx (hb hby d7_62) (pc' := 64) rfl (Ls' := #[.val (.ref q1), .val (.int (32 : Int32)), .val (.ref q3), .val (.long (((8 : Int64) * (z_q1.toInt64)) - (0 : Int64))), .second, .val (.long ((((0 : Int64) ||| (((own_ush32 (w0_w_bytes_q1 &&& (255 : Int32)) (0 : Int32)) &&& (255 : Int32)).toInt64)) <<< ((8 : Int32) &&& 63).toInt64) ||| (((own_ush32 (w1_w_bytes_q1 &&& (255 : Int32)) (0 : Int32)) &&& (255 : Int32)).toInt64))), .second, .val (.int (16 : Int32)), .val (.int (2 : Int32)), .val (.int (8 : Int32)), .val (.int (8 : Int32)), .val (.int ((own_ush32 (w1_w_bytes_q1 &&& (255 : Int32)) (0 : Int32)) &&& (255 : Int32)))]) rfl ?_
  refine own_iload X69 hx (hb hby d7_64) (pc' := 66) rfl rfl ?_
  refine own_iload X69 hx (hb hby d7_66) (pc' := 68) rfl rfl ?_
  obtain ⟨_, _, ⟨T70, L70, k70, n70⟩, -, X70, ⟨Lc70, hQ70, l70, y70, z70⟩, st70⟩ := Jvm.LawKit.callS X69 hx (y := (⟨"java/lang/Math", "min", "(II)I"⟩ : MethodName)) hown (mvT hZ (hw _ (List.mem_of_getElem? (i := 52) rfl))) (mvT hZ (hw _ (List.mem_of_getElem? (i := 53) rfl))) (mvT hZ (hw _ (List.mem_of_getElem? (i := 54) rfl))) (mvT hZ (hw _ (List.mem_of_getElem? (i := 55) rfl))) (by decide) (backOf (W := 0) (rm9 l Z a0 hw [] (8 : Int32) (16 : Int32) h67 n0 sz67 ) hZ (hw _ (List.mem_of_getElem? (i := 55) rfl)) (hw _ (List.mem_of_getElem? (i := 54) rfl)) (by decide) (by decide)) (g := (mkF m 68 #[.val (.ref q1), .val (.int (32 : Int32)), .val (.ref q3), .val (.long (((8 : Int64) * (z_q1.toInt64)) - (0 : Int64))), .second, .val (.long ((((0 : Int64) ||| (((own_ush32 (w0_w_bytes_q1 &&& (255 : Int32)) (0 : Int32)) &&& (255 : Int32)).toInt64)) <<< ((8 : Int32) &&& 63).toInt64) ||| (((own_ush32 (w1_w_bytes_q1 &&& (255 : Int32)) (0 : Int32)) &&& (255 : Int32)).toInt64))), .second, .val (.int (16 : Int32)), .val (.int (2 : Int32)), .val (.int (8 : Int32)), .val (.int (8 : Int32)), .val (.int ((own_ush32 (w1_w_bytes_q1 &&& (255 : Int32)) (0 : Int32)) &&& (255 : Int32)))] [(.int (16 : Int32)), (.int (8 : Int32))])) rfl (by rw [hml]; rfl) (argsL := [(.int (8 : Int32)), (.int (16 : Int32))]) (rest := []) (lenOf pd_1 rfl) rfl (by show 2 * 0 + _ ≤ _; exact Nat.le_of_eq rfl) (hb hby d7_68) (fun _ _ => ⟨rfl, e69, (by decide : 0 + 0 ≤ _), (by decide : 0 + 0 ≤ _)⟩)
  dsimp only [Pt.U, Pt.locs, Pt.cells, Pt.slots] at X70 l70 y70 z70 st70 hQ70
  subst l70 y70 z70
  obtain ⟨rfl, N70q, e70'⟩ := hQ70
  have N70 := Fr.app N67 N70q
  refine own_st ?_ st70
  show own_Fin _ _ _ _ T70 (mkF m 71 #[.val (.ref q1), .val (.int (32 : Int32)), .val (.ref q3), .val (.long (((8 : Int64) * (z_q1.toInt64)) - (0 : Int64))), .second, .val (.long ((((0 : Int64) ||| (((own_ush32 (w0_w_bytes_q1 &&& (255 : Int32)) (0 : Int32)) &&& (255 : Int32)).toInt64)) <<< ((8 : Int32) &&& 63).toInt64) ||| (((own_ush32 (w1_w_bytes_q1 &&& (255 : Int32)) (0 : Int32)) &&& (255 : Int32)).toInt64))), .second, .val (.int (16 : Int32)), .val (.int (2 : Int32)), .val (.int (8 : Int32)), .val (.int (8 : Int32)), .val (.int ((own_ush32 (w1_w_bytes_q1 &&& (255 : Int32)) (0 : Int32)) &&& (255 : Int32)))] [(.int (own_f9 (8 : Int32) (16 : Int32)))])
  rw [(by decide : own_f9 (8 : Int32) (16 : Int32) = (8 : Int32))]
  show own_Fin _ _ _ _ T70 (mkF m 71 #[.val (.ref q1), .val (.int (32 : Int32)), .val (.ref q3), .val (.long (((8 : Int64) * (z_q1.toInt64)) - (0 : Int64))), .second, .val (.long ((((0 : Int64) ||| (((own_ush32 (w0_w_bytes_q1 &&& (255 : Int32)) (0 : Int32)) &&& (255 : Int32)).toInt64)) <<< ((8 : Int32) &&& 63).toInt64) ||| (((own_ush32 (w1_w_bytes_q1 &&& (255 : Int32)) (0 : Int32)) &&& (255 : Int32)).toInt64))), .second, .val (.int (16 : Int32)), .val (.int (2 : Int32)), .val (.int (8 : Int32)), .val (.int (8 : Int32)), .val (.int ((own_ush32 (w1_w_bytes_q1 &&& (255 : Int32)) (0 : Int32)) &&& (255 : Int32)))] [(.int (8 : Int32))])
  refine own_istore X70 hx (hb hby d7_71) (pc' := 73) rfl (Ls' := #[.val (.ref q1), .val (.int (32 : Int32)), .val (.ref q3), .val (.long (((8 : Int64) * (z_q1.toInt64)) - (0 : Int64))), .second, .val (.long ((((0 : Int64) ||| (((own_ush32 (w0_w_bytes_q1 &&& (255 : Int32)) (0 : Int32)) &&& (255 : Int32)).toInt64)) <<< ((8 : Int32) &&& 63).toInt64) ||| (((own_ush32 (w1_w_bytes_q1 &&& (255 : Int32)) (0 : Int32)) &&& (255 : Int32)).toInt64))), .second, .val (.int (16 : Int32)), .val (.int (2 : Int32)), .val (.int (8 : Int32)), .val (.int (8 : Int32)), .val (.int ((own_ush32 (w1_w_bytes_q1 &&& (255 : Int32)) (0 : Int32)) &&& (255 : Int32)))]) rfl ?_
  refine own_aloadN X70 hx (hb hby d7_73) (pc' := 74) rfl rfl rfl ?_
  refine own_getF X70 hx hZ hown (hw _ (List.mem_of_getElem? (i := 11) rfl)) Via.refl e70' F_q1_bytes_67 (hb hby d7_74) (pc' := 77) rfl (fun T71 X71 e71 => ?_)
  refine own_iload X71 hx (hb hby d7_77) (pc' := 79) rfl rfl ?_
  obtain ⟨cl72, Ar72, qa72, S72, M72, H72, G72⟩ := id A_w_bytes_q1_67
  have hin72 : ¬ ((2 : Int32) < 0 ∨ cl72.slots.size ≤ ((2 : Int32)).toNatClampNeg) := inb_of S72 ⟨by decide, Int32.lt_of_le_of_lt (by decide) hz⟩
  refine own_st ?_ (fun t k => X71.baloadBytes hx (j := (2 : Int32)) (v := (.int w2_w_bytes_q1)) (by rw [e71]; exact Ar72.1) (State.isArrayOf_alike hZ.alike Ar72.2.1) Ar72.2.2 hin72 (Has.at H72 hin72 rfl) (g := (mkF m 79 #[.val (.ref q1), .val (.int (32 : Int32)), .val (.ref q3), .val (.long (((8 : Int64) * (z_q1.toInt64)) - (0 : Int64))), .second, .val (.long ((((0 : Int64) ||| (((own_ush32 (w0_w_bytes_q1 &&& (255 : Int32)) (0 : Int32)) &&& (255 : Int32)).toInt64)) <<< ((8 : Int32) &&& 63).toInt64) ||| (((own_ush32 (w1_w_bytes_q1 &&& (255 : Int32)) (0 : Int32)) &&& (255 : Int32)).toInt64))), .second, .val (.int (16 : Int32)), .val (.int (2 : Int32)), .val (.int (8 : Int32)), .val (.int (8 : Int32)), .val (.int ((own_ush32 (w1_w_bytes_q1 &&& (255 : Int32)) (0 : Int32)) &&& (255 : Int32)))] [(.int (2 : Int32)), (.ref w_bytes_q1)])) rfl rfl (hb hby d7_79) t k)
  show own_Fin _ _ _ _ T71 (mkF m 80 #[.val (.ref q1), .val (.int (32 : Int32)), .val (.ref q3), .val (.long (((8 : Int64) * (z_q1.toInt64)) - (0 : Int64))), .second, .val (.long ((((0 : Int64) ||| (((own_ush32 (w0_w_bytes_q1 &&& (255 : Int32)) (0 : Int32)) &&& (255 : Int32)).toInt64)) <<< ((8 : Int32) &&& 63).toInt64) ||| (((own_ush32 (w1_w_bytes_q1 &&& (255 : Int32)) (0 : Int32)) &&& (255 : Int32)).toInt64))), .second, .val (.int (16 : Int32)), .val (.int (2 : Int32)), .val (.int (8 : Int32)), .val (.int (8 : Int32)), .val (.int ((own_ush32 (w1_w_bytes_q1 &&& (255 : Int32)) (0 : Int32)) &&& (255 : Int32)))] [(.int w2_w_bytes_q1)])
  refine own_sipush X71 hx (hb hby d7_80) (pc' := 83) rfl (v := (255 : Int32)) rfl ?_
  refine own_iand X71 hx (hb hby d7_83) (pc' := 84) rfl ?_
  refine own_iload X71 hx (hb hby d7_84) (pc' := 86) rfl rfl ?_
  refine own_iload X71 hx (hb hby d7_86) (pc' := 88) rfl rfl ?_
  refine own_isub X71 hx (hb hby d7_88) (pc' := 89) rfl ?_
  show own_Fin _ _ _ _ T71 (mkF m 89 #[.val (.ref q1), .val (.int (32 : Int32)), .val (.ref q3), .val (.long (((8 : Int64) * (z_q1.toInt64)) - (0 : Int64))), .second, .val (.long ((((0 : Int64) ||| (((own_ush32 (w0_w_bytes_q1 &&& (255 : Int32)) (0 : Int32)) &&& (255 : Int32)).toInt64)) <<< ((8 : Int32) &&& 63).toInt64) ||| (((own_ush32 (w1_w_bytes_q1 &&& (255 : Int32)) (0 : Int32)) &&& (255 : Int32)).toInt64))), .second, .val (.int (16 : Int32)), .val (.int (2 : Int32)), .val (.int (8 : Int32)), .val (.int (8 : Int32)), .val (.int ((own_ush32 (w1_w_bytes_q1 &&& (255 : Int32)) (0 : Int32)) &&& (255 : Int32)))] [(.int (0 : Int32)), (.int (w2_w_bytes_q1 &&& (255 : Int32)))])
  refine own_iushr X71 hx (hb hby d7_89) (pc' := 90) rfl ?_
  refine own_iconst X71 hx (hb hby d7_90) (pc' := 91) rfl (v := (1 : Int32)) rfl ?_
  refine own_iload X71 hx (hb hby d7_91) (pc' := 93) rfl rfl ?_
  refine own_ishl X71 hx (hb hby d7_93) (pc' := 94) rfl ?_
  show own_Fin _ _ _ _ T71 (mkF m 94 #[.val (.ref q1), .val (.int (32 : Int32)), .val (.ref q3), .val (.long (((8 : Int64) * (z_q1.toInt64)) - (0 : Int64))), .second, .val (.long ((((0 : Int64) ||| (((own_ush32 (w0_w_bytes_q1 &&& (255 : Int32)) (0 : Int32)) &&& (255 : Int32)).toInt64)) <<< ((8 : Int32) &&& 63).toInt64) ||| (((own_ush32 (w1_w_bytes_q1 &&& (255 : Int32)) (0 : Int32)) &&& (255 : Int32)).toInt64))), .second, .val (.int (16 : Int32)), .val (.int (2 : Int32)), .val (.int (8 : Int32)), .val (.int (8 : Int32)), .val (.int ((own_ush32 (w1_w_bytes_q1 &&& (255 : Int32)) (0 : Int32)) &&& (255 : Int32)))] [(.int (256 : Int32)), (.int (own_ush32 (w2_w_bytes_q1 &&& (255 : Int32)) (0 : Int32)))])
  refine own_iconst X71 hx (hb hby d7_94) (pc' := 95) rfl (v := (1 : Int32)) rfl ?_
  refine own_isub X71 hx (hb hby d7_95) (pc' := 96) rfl ?_
  show own_Fin _ _ _ _ T71 (mkF m 96 #[.val (.ref q1), .val (.int (32 : Int32)), .val (.ref q3), .val (.long (((8 : Int64) * (z_q1.toInt64)) - (0 : Int64))), .second, .val (.long ((((0 : Int64) ||| (((own_ush32 (w0_w_bytes_q1 &&& (255 : Int32)) (0 : Int32)) &&& (255 : Int32)).toInt64)) <<< ((8 : Int32) &&& 63).toInt64) ||| (((own_ush32 (w1_w_bytes_q1 &&& (255 : Int32)) (0 : Int32)) &&& (255 : Int32)).toInt64))), .second, .val (.int (16 : Int32)), .val (.int (2 : Int32)), .val (.int (8 : Int32)), .val (.int (8 : Int32)), .val (.int ((own_ush32 (w1_w_bytes_q1 &&& (255 : Int32)) (0 : Int32)) &&& (255 : Int32)))] [(.int (255 : Int32)), (.int (own_ush32 (w2_w_bytes_q1 &&& (255 : Int32)) (0 : Int32)))])
  refine own_iand X71 hx (hb hby d7_96) (pc' := 97) rfl ?_
  refine own_istore X71 hx (hb hby d7_97) (pc' := 99) rfl (Ls' := #[.val (.ref q1), .val (.int (32 : Int32)), .val (.ref q3), .val (.long (((8 : Int64) * (z_q1.toInt64)) - (0 : Int64))), .second, .val (.long ((((0 : Int64) ||| (((own_ush32 (w0_w_bytes_q1 &&& (255 : Int32)) (0 : Int32)) &&& (255 : Int32)).toInt64)) <<< ((8 : Int32) &&& 63).toInt64) ||| (((own_ush32 (w1_w_bytes_q1 &&& (255 : Int32)) (0 : Int32)) &&& (255 : Int32)).toInt64))), .second, .val (.int (16 : Int32)), .val (.int (2 : Int32)), .val (.int (8 : Int32)), .val (.int (8 : Int32)), .val (.int ((own_ush32 (w2_w_bytes_q1 &&& (255 : Int32)) (0 : Int32)) &&& (255 : Int32)))]) rfl ?_
  refine own_lload X71 hx (hb hby d7_99) (pc' := 101) rfl rfl ?_
  refine own_iload X71 hx (hb hby d7_101) (pc' := 103) rfl rfl ?_
  refine own_lshl X71 hx (hb hby d7_103) (pc' := 104) rfl ?_
  refine own_iload X71 hx (hb hby d7_104) (pc' := 106) rfl rfl ?_
  refine own_i2l X71 hx (hb hby d7_106) (pc' := 107) rfl ?_
  refine own_lor X71 hx (hb hby d7_107) (pc' := 108) rfl ?_
  refine own_lstore X71 hx (hb hby d7_108) (pc' := 110) rfl (Ls' := #[.val (.ref q1), .val (.int (32 : Int32)), .val (.ref q3), .val (.long (((8 : Int64) * (z_q1.toInt64)) - (0 : Int64))), .second, .val (.long ((((((0 : Int64) ||| (((own_ush32 (w0_w_bytes_q1 &&& (255 : Int32)) (0 : Int32)) &&& (255 : Int32)).toInt64)) <<< ((8 : Int32) &&& 63).toInt64) ||| (((own_ush32 (w1_w_bytes_q1 &&& (255 : Int32)) (0 : Int32)) &&& (255 : Int32)).toInt64)) <<< ((8 : Int32) &&& 63).toInt64) ||| (((own_ush32 (w2_w_bytes_q1 &&& (255 : Int32)) (0 : Int32)) &&& (255 : Int32)).toInt64))), .second, .val (.int (16 : Int32)), .val (.int (2 : Int32)), .val (.int (8 : Int32)), .val (.int (8 : Int32)), .val (.int ((own_ush32 (w2_w_bytes_q1 &&& (255 : Int32)) (0 : Int32)) &&& (255 : Int32)))]) rfl ?_
  refine own_aloadN X71 hx (hb hby d7_110) (pc' := 111) rfl rfl rfl ?_
  refine own_dup X71 hx (hb hby d7_111) (pc' := 112) rfl rfl ?_
  refine own_getF X71 hx hZ hown (hw _ (List.mem_of_getElem? (i := 18) rfl)) Via.refl e71 F_q1_position_67 (hb hby d7_112) (pc' := 115) rfl (fun T73 X73 e73 => ?_)
  refine own_iload X73 hx (hb hby d7_115) (pc' := 117) rfl rfl ?_
  refine own_i2l X73 hx (hb hby d7_117) (pc' := 118) rfl ?_
  show own_Fin _ _ _ _ T73 (mkF m 118 #[.val (.ref q1), .val (.int (32 : Int32)), .val (.ref q3), .val (.long (((8 : Int64) * (z_q1.toInt64)) - (0 : Int64))), .second, .val (.long ((((((0 : Int64) ||| (((own_ush32 (w0_w_bytes_q1 &&& (255 : Int32)) (0 : Int32)) &&& (255 : Int32)).toInt64)) <<< ((8 : Int32) &&& 63).toInt64) ||| (((own_ush32 (w1_w_bytes_q1 &&& (255 : Int32)) (0 : Int32)) &&& (255 : Int32)).toInt64)) <<< ((8 : Int32) &&& 63).toInt64) ||| (((own_ush32 (w2_w_bytes_q1 &&& (255 : Int32)) (0 : Int32)) &&& (255 : Int32)).toInt64))), .second, .val (.int (16 : Int32)), .val (.int (2 : Int32)), .val (.int (8 : Int32)), .val (.int (8 : Int32)), .val (.int ((own_ush32 (w2_w_bytes_q1 &&& (255 : Int32)) (0 : Int32)) &&& (255 : Int32)))] [(.long (8 : Int64)), (.long (16 : Int64)), (.ref q1)])
  refine own_ladd X73 hx (hb hby d7_118) (pc' := 119) rfl ?_
  show own_Fin _ _ _ _ T73 (mkF m 119 #[.val (.ref q1), .val (.int (32 : Int32)), .val (.ref q3), .val (.long (((8 : Int64) * (z_q1.toInt64)) - (0 : Int64))), .second, .val (.long ((((((0 : Int64) ||| (((own_ush32 (w0_w_bytes_q1 &&& (255 : Int32)) (0 : Int32)) &&& (255 : Int32)).toInt64)) <<< ((8 : Int32) &&& 63).toInt64) ||| (((own_ush32 (w1_w_bytes_q1 &&& (255 : Int32)) (0 : Int32)) &&& (255 : Int32)).toInt64)) <<< ((8 : Int32) &&& 63).toInt64) ||| (((own_ush32 (w2_w_bytes_q1 &&& (255 : Int32)) (0 : Int32)) &&& (255 : Int32)).toInt64))), .second, .val (.int (16 : Int32)), .val (.int (2 : Int32)), .val (.int (8 : Int32)), .val (.int (8 : Int32)), .val (.int ((own_ush32 (w2_w_bytes_q1 &&& (255 : Int32)) (0 : Int32)) &&& (255 : Int32)))] [(.long (24 : Int64)), (.ref q1)])
  obtain ⟨T74, h74, X74, e74, W74, st74⟩ := putF X73 hx hZ hown (host := "") (Or.inl (hw _ (List.mem_of_getElem? (i := 18) rfl))) Via.refl e73 F_q1_position_67 E_q1_67 (Or.inl (hw _ (List.mem_of_getElem? (i := 19) rfl))) (hw _ (List.mem_of_getElem? (i := 3) rfl)) (ty := .long) (by decide) rfl rfl (g := (mkF m 119 #[.val (.ref q1), .val (.int (32 : Int32)), .val (.ref q3), .val (.long (((8 : Int64) * (z_q1.toInt64)) - (0 : Int64))), .second, .val (.long ((((((0 : Int64) ||| (((own_ush32 (w0_w_bytes_q1 &&& (255 : Int32)) (0 : Int32)) &&& (255 : Int32)).toInt64)) <<< ((8 : Int32) &&& 63).toInt64) ||| (((own_ush32 (w1_w_bytes_q1 &&& (255 : Int32)) (0 : Int32)) &&& (255 : Int32)).toInt64)) <<< ((8 : Int32) &&& 63).toInt64) ||| (((own_ush32 (w2_w_bytes_q1 &&& (255 : Int32)) (0 : Int32)) &&& (255 : Int32)).toInt64))), .second, .val (.int (16 : Int32)), .val (.int (2 : Int32)), .val (.int (8 : Int32)), .val (.int (8 : Int32)), .val (.int ((own_ush32 (w2_w_bytes_q1 &&& (255 : Int32)) (0 : Int32)) &&& (255 : Int32)))] [(.long (24 : Int64)), (.ref q1)])) rfl rfl (hb hby d7_119)
  have E_q1_74 : Exa Z h74 q1 "com/example/typewire/typewire/packet/BitInput" := E_q1_67.wr W74
  have F_q1_bytes_74 : Fld Z h74 q1 "com/example/typewire/typewire/packet/BitInput" "bytes" "[B" (.ref w_bytes_q1) := F_q1_bytes_67.other W74 (Or.inr (slot_ne (Or.inr (hw _ (List.mem_of_getElem? (i := 12) rfl))) (Or.inl (hw _ (List.mem_of_getElem? (i := 19) rfl))) (by decide) (t := (.array .byte)) (t' := .long) (by decide) (by decide)))
  have F_q1_position_74 : Fld Z h74 q1 "com/example/typewire/typewire/packet/BitInput" "position" "J" (.long (24 : Int64)) := F_q1_position_67.same W74
  have A_w_bytes_q1_74 : Arv Z h74 w_bytes_q1 kc_w_bytes_q1 .byte z_q1 [(.int w0_w_bytes_q1), (.int w1_w_bytes_q1), (.int w2_w_bytes_q1), (.int w3_w_bytes_q1)] (.int (0 : Int32)) := A_w_bytes_q1_67.other W74 (Ne.symm ne_q1_w_bytes_q1)
  have N74 := Fr.snoc X74 N70 g_q1
  have sz74 : n0 ≤ h74.size := Nat.le_trans sz67 (Keep.of_wr W74).1
  have K74 : Keep h0 h74 [q1, w_bytes_q1] := K67.wr W74 (Or.inl (List.mem_of_getElem? (i := 0) rfl))
  refine own_st ?_ st74
  show own_Fin _ _ _ _ T74 (mkF m 122 #[.val (.ref q1), .val (.int (32 : Int32)), .val (.ref q3), .val (.long (((8 : Int64) * (z_q1.toInt64)) - (0 : Int64))), .second, .val (.long ((((((0 : Int64) ||| (((own_ush32 (w0_w_bytes_q1 &&& (255 : Int32)) (0 : Int32)) &&& (255 : Int32)).toInt64)) <<< ((8 : Int32) &&& 63).toInt64) ||| (((own_ush32 (w1_w_bytes_q1 &&& (255 : Int32)) (0 : Int32)) &&& (255 : Int32)).toInt64)) <<< ((8 : Int32) &&& 63).toInt64) ||| (((own_ush32 (w2_w_bytes_q1 &&& (255 : Int32)) (0 : Int32)) &&& (255 : Int32)).toInt64))), .second, .val (.int (16 : Int32)), .val (.int (2 : Int32)), .val (.int (8 : Int32)), .val (.int (8 : Int32)), .val (.int ((own_ush32 (w2_w_bytes_q1 &&& (255 : Int32)) (0 : Int32)) &&& (255 : Int32)))] [])
  refine own_iload X74 hx (hb hby d7_122) (pc' := 124) rfl rfl ?_
  refine own_iload X74 hx (hb hby d7_124) (pc' := 126) rfl rfl ?_
  refine own_isub X74 hx (hb hby d7_126) (pc' := 127) rfl ?_
  show own_Fin _ _ _ _ T74 (mkF m 127 #[.val (.ref q1), .val (.int (32 : Int32)), .val (.ref q3), .val (.long (((8 : Int64) * (z_q1.toInt64)) - (0 : Int64))), .second, .val (.long ((((((0 : Int64) ||| (((own_ush32 (w0_w_bytes_q1 &&& (255 : Int32)) (0 : Int32)) &&& (255 : Int32)).toInt64)) <<< ((8 : Int32) &&& 63).toInt64) ||| (((own_ush32 (w1_w_bytes_q1 &&& (255 : Int32)) (0 : Int32)) &&& (255 : Int32)).toInt64)) <<< ((8 : Int32) &&& 63).toInt64) ||| (((own_ush32 (w2_w_bytes_q1 &&& (255 : Int32)) (0 : Int32)) &&& (255 : Int32)).toInt64))), .second, .val (.int (16 : Int32)), .val (.int (2 : Int32)), .val (.int (8 : Int32)), .val (.int (8 : Int32)), .val (.int ((own_ush32 (w2_w_bytes_q1 &&& (255 : Int32)) (0 : Int32)) &&& (255 : Int32)))] [(.int (8 : Int32))])
  refine own_istore X74 hx (hb hby d7_127) (pc' := 129) rfl (Ls' := #[.val (.ref q1), .val (.int (32 : Int32)), .val (.ref q3), .val (.long (((8 : Int64) * (z_q1.toInt64)) - (0 : Int64))), .second, .val (.long ((((((0 : Int64) ||| (((own_ush32 (w0_w_bytes_q1 &&& (255 : Int32)) (0 : Int32)) &&& (255 : Int32)).toInt64)) <<< ((8 : Int32) &&& 63).toInt64) ||| (((own_ush32 (w1_w_bytes_q1 &&& (255 : Int32)) (0 : Int32)) &&& (255 : Int32)).toInt64)) <<< ((8 : Int32) &&& 63).toInt64) ||| (((own_ush32 (w2_w_bytes_q1 &&& (255 : Int32)) (0 : Int32)) &&& (255 : Int32)).toInt64))), .second, .val (.int (8 : Int32)), .val (.int (2 : Int32)), .val (.int (8 : Int32)), .val (.int (8 : Int32)), .val (.int ((own_ush32 (w2_w_bytes_q1 &&& (255 : Int32)) (0 : Int32)) &&& (255 : Int32)))]) rfl ?_
  refine own_goto X74 hx (hb hby d7_129) (pc' := 34) (by decide) (by decide) ?_
  refine own_iload X74 hx (hb hby d7_34) (pc' := 36) rfl rfl ?_
  refine own_ifNo X74 hx (hb hby d7_36) (pc' := 39) rfl ((if0 _ _).trans (tlt (by decide : (0 : Int32) < (8 : Int32))).2.2.2) ?_
  refine own_aloadN X74 hx (hb hby d7_39) (pc' := 40) rfl rfl rfl ?_
  refine own_getF X74 hx hZ hown (hw _ (List.mem_of_getElem? (i := 18) rfl)) Via.refl e74 F_q1_position_74 (hb hby d7_40) (pc' := 43) rfl (fun T75 X75 e75 => ?_)
  refine own_ldc2Long X75 hx hZ hown (hw _ (List.mem_of_getElem? (i := 20) rfl)) (hb hby d7_43) (pc' := 46) rfl ?_
  refine own_ldiv X75 hx (hb hby d7_46) (pc' := 47) rfl (by decide) ?_
  show own_Fin _ _ _ _ T75 (mkF m 47 #[.val (.ref q1), .val (.int (32 : Int32)), .val (.ref q3), .val (.long (((8 : Int64) * (z_q1.toInt64)) - (0 : Int64))), .second, .val (.long ((((((0 : Int64) ||| (((own_ush32 (w0_w_bytes_q1 &&& (255 : Int32)) (0 : Int32)) &&& (255 : Int32)).toInt64)) <<< ((8 : Int32) &&& 63).toInt64) ||| (((own_ush32 (w1_w_bytes_q1 &&& (255 : Int32)) (0 : Int32)) &&& (255 : Int32)).toInt64)) <<< ((8 : Int32) &&& 63).toInt64) ||| (((own_ush32 (w2_w_bytes_q1 &&& (255 : Int32)) (0 : Int32)) &&& (255 : Int32)).toInt64))), .second, .val (.int (8 : Int32)), .val (.int (2 : Int32)), .val (.int (8 : Int32)), .val (.int (8 : Int32)), .val (.int ((own_ush32 (w2_w_bytes_q1 &&& (255 : Int32)) (0 : Int32)) &&& (255 : Int32)))] [(.long (3 : Int64))])
  refine own_l2i X75 hx (hb hby d7_47) (pc' := 48) rfl ?_
  show own_Fin _ _ _ _ T75 (mkF m 48 #[.val (.ref q1), .val (.int (32 : Int32)), .val (.ref q3), .val (.long (((8 : Int64) * (z_q1.toInt64)) - (0 : Int64))), .second, .val (.long ((((((0 : Int64) ||| (((own_ush32 (w0_w_bytes_q1 &&& (255 : Int32)) (0 : Int32)) &&& (255 : Int32)).toInt64)) <<< ((8 : Int32) &&& 63).toInt64) ||| (((own_ush32 (w1_w_bytes_q1 &&& (255 : Int32)) (0 : Int32)) &&& (255 : Int32)).toInt64)) <<< ((8 : Int32) &&& 63).toInt64) ||| (((own_ush32 (w2_w_bytes_q1 &&& (255 : Int32)) (0 : Int32)) &&& (255 : Int32)).toInt64))), .second, .val (.int (8 : Int32)), .val (.int (2 : Int32)), .val (.int (8 : Int32)), .val (.int (8 : Int32)), .val (.int ((own_ush32 (w2_w_bytes_q1 &&& (255 : Int32)) (0 : Int32)) &&& (255 : Int32)))] [(.int (3 : Int32))])
  refine own_istore X75 hx (hb hby d7_48) (pc' := 50) rfl (Ls' := #[.val (.ref q1), .val (.int (32 : Int32)), .val (.ref q3), .val (.long (((8 : Int64) * (z_q1.toInt64)) - (0 : Int64))), .second, .val (.long ((((((0 : Int64) ||| (((own_ush32 (w0_w_bytes_q1 &&& (255 : Int32)) (0 : Int32)) &&& (255 : Int32)).toInt64)) <<< ((8 : Int32) &&& 63).toInt64) ||| (((own_ush32 (w1_w_bytes_q1 &&& (255 : Int32)) (0 : Int32)) &&& (255 : Int32)).toInt64)) <<< ((8 : Int32) &&& 63).toInt64) ||| (((own_ush32 (w2_w_bytes_q1 &&& (255 : Int32)) (0 : Int32)) &&& (255 : Int32)).toInt64))), .second, .val (.int (8 : Int32)), .val (.int (3 : Int32)), .val (.int (8 : Int32)), .val (.int (8 : Int32)), .val (.int ((own_ush32 (w2_w_bytes_q1 &&& (255 : Int32)) (0 : Int32)) &&& (255 : Int32)))]) rfl ?_
  refine own_bipush X75 hx (hb hby d7_50) (pc' := 52) rfl (v := (8 : Int32)) rfl ?_
  refine own_aloadN X75 hx (hb hby d7_52) (pc' := 53) rfl rfl rfl ?_
  refine own_getF X75 hx hZ hown (hw _ (List.mem_of_getElem? (i := 18) rfl)) Via.refl e75 F_q1_position_74 (hb hby d7_53) (pc' := 56) rfl (fun T76 X76 e76 => ?_)
  refine own_ldc2Long X76 hx hZ hown (hw _ (List.mem_of_getElem? (i := 20) rfl)) (hb hby d7_56) (pc' := 59) rfl ?_
  refine own_lrem X76 hx (hb hby d7_59) (pc' := 60) rfl (by decide) ?_
  show own_Fin _ _ _ _ T76 (mkF m 60 #[.val (.ref q1), .val (.int (32 : Int32)), .val (.ref q3), .val (.long (((8 : Int64) * (z_q1.toInt64)) - (0 : Int64))), .second, .val (.long ((((((0 : Int64) ||| (((own_ush32 (w0_w_bytes_q1 &&& (255 : Int32)) (0 : Int32)) &&& (255 : Int32)).toInt64)) <<< ((8 : Int32) &&& 63).toInt64) ||| (((own_ush32 (w1_w_bytes_q1 &&& (255 : Int32)) (0 : Int32)) &&& (255 : Int32)).toInt64)) <<< ((8 : Int32) &&& 63).toInt64) ||| (((own_ush32 (w2_w_bytes_q1 &&& (255 : Int32)) (0 : Int32)) &&& (255 : Int32)).toInt64))), .second, .val (.int (8 : Int32)), .val (.int (3 : Int32)), .val (.int (8 : Int32)), .val (.int (8 : Int32)), .val (.int ((own_ush32 (w2_w_bytes_q1 &&& (255 : Int32)) (0 : Int32)) &&& (255 : Int32)))] [(.long (0 : Int64)), (.int (8 : Int32))])
  refine own_l2i X76 hx (hb hby d7_60) (pc' := 61) rfl ?_
  show own_Fin _ _ _ _ T76 (mkF m 61 #[.val (.ref q1), .val (.int (32 : Int32)), .val (.ref q3), .val (.long (((8 : Int64) * (z_q1.toInt64)) - (0 : Int64))), .second, .val (.long ((((((0 : Int64) ||| (((own_ush32 (w0_w_bytes_q1 &&& (255 : Int32)) (0 : Int32)) &&& (255 : Int32)).toInt64)) <<< ((8 : Int32) &&& 63).toInt64) ||| (((own_ush32 (w1_w_bytes_q1 &&& (255 : Int32)) (0 : Int32)) &&& (255 : Int32)).toInt64)) <<< ((8 : Int32) &&& 63).toInt64) ||| (((own_ush32 (w2_w_bytes_q1 &&& (255 : Int32)) (0 : Int32)) &&& (255 : Int32)).toInt64))), .second, .val (.int (8 : Int32)), .val (.int (3 : Int32)), .val (.int (8 : Int32)), .val (.int (8 : Int32)), .val (.int ((own_ush32 (w2_w_bytes_q1 &&& (255 : Int32)) (0 : Int32)) &&& (255 : Int32)))] [(.int (0 : Int32)), (.int (8 : Int32))])
  refine own_isub X76 hx (hb hby d7_61) (pc' := 62) rfl ?_
  show own_Fin _ _ _ _ T76 (mkF m 62 #[.val (.ref q1), .val (.int (32 : Int32)), .val (.ref q3), .val (.long (((8 : Int64) * (z_q1.toInt64)) - (0 : Int64))), .second, .val (.long ((((((0 : Int64) ||| (((own_ush32 (w0_w_bytes_q1 &&& (255 : Int32)) (0 : Int32)) &&& (255 : Int32)).toInt64)) <<< ((8 : Int32) &&& 63).toInt64) ||| (((own_ush32 (w1_w_bytes_q1 &&& (255 : Int32)) (0 : Int32)) &&& (255 : Int32)).toInt64)) <<< ((8 : Int32) &&& 63).toInt64) ||| (((own_ush32 (w2_w_bytes_q1 &&& (255 : Int32)) (0 : Int32)) &&& (255 : Int32)).toInt64))), .second, .val (.int (8 : Int32)), .val (.int (3 : Int32)), .val (.int (8 : Int32)), .val (.int (8 : Int32)), .val (.int ((own_ush32 (w2_w_bytes_q1 &&& (255 : Int32)) (0 : Int32)) &&& (255 : Int32)))] [(.int (8 : Int32))])
  refine own_istore X76 hx (hb hby d7_62) (pc' := 64) rfl (Ls' := #[.val (.ref q1), .val (.int (32 : Int32)), .val (.ref q3), .val (.long (((8 : Int64) * (z_q1.toInt64)) - (0 : Int64))), .second, .val (.long ((((((0 : Int64) ||| (((own_ush32 (w0_w_bytes_q1 &&& (255 : Int32)) (0 : Int32)) &&& (255 : Int32)).toInt64)) <<< ((8 : Int32) &&& 63).toInt64) ||| (((own_ush32 (w1_w_bytes_q1 &&& (255 : Int32)) (0 : Int32)) &&& (255 : Int32)).toInt64)) <<< ((8 : Int32) &&& 63).toInt64) ||| (((own_ush32 (w2_w_bytes_q1 &&& (255 : Int32)) (0 : Int32)) &&& (255 : Int32)).toInt64))), .second, .val (.int (8 : Int32)), .val (.int (3 : Int32)), .val (.int (8 : Int32)), .val (.int (8 : Int32)), .val (.int ((own_ush32 (w2_w_bytes_q1 &&& (255 : Int32)) (0 : Int32)) &&& (255 : Int32)))]) rfl ?_
  refine own_iload X76 hx (hb hby d7_64) (pc' := 66) rfl rfl ?_
  refine own_iload X76 hx (hb hby d7_66) (pc' := 68) rfl rfl ?_
  obtain ⟨_, _, ⟨T77, L77, k77, n77⟩, -, X77, ⟨Lc77, hQ77, l77, y77, z77⟩, st77⟩ := Jvm.LawKit.callS X76 hx (y := (⟨"java/lang/Math", "min", "(II)I"⟩ : MethodName)) hown (mvT hZ (hw _ (List.mem_of_getElem? (i := 52) rfl))) (mvT hZ (hw _ (List.mem_of_getElem? (i := 53) rfl))) (mvT hZ (hw _ (List.mem_of_getElem? (i := 54) rfl))) (mvT hZ (hw _ (List.mem_of_getElem? (i := 55) rfl))) (by decide) (backOf (W := 0) (rm9 l Z a0 hw [] (8 : Int32) (8 : Int32) h74 n0 sz74 ) hZ (hw _ (List.mem_of_getElem? (i := 55) rfl)) (hw _ (List.mem_of_getElem? (i := 54) rfl)) (by decide) (by decide)) (g := (mkF m 68 #[.val (.ref q1), .val (.int (32 : Int32)), .val (.ref q3), .val (.long (((8 : Int64) * (z_q1.toInt64)) - (0 : Int64))), .second, .val (.long ((((((0 : Int64) ||| (((own_ush32 (w0_w_bytes_q1 &&& (255 : Int32)) (0 : Int32)) &&& (255 : Int32)).toInt64)) <<< ((8 : Int32) &&& 63).toInt64) ||| (((own_ush32 (w1_w_bytes_q1 &&& (255 : Int32)) (0 : Int32)) &&& (255 : Int32)).toInt64)) <<< ((8 : Int32) &&& 63).toInt64) ||| (((own_ush32 (w2_w_bytes_q1 &&& (255 : Int32)) (0 : Int32)) &&& (255 : Int32)).toInt64))), .second, .val (.int (8 : Int32)), .val (.int (3 : Int32)), .val (.int (8 : Int32)), .val (.int (8 : Int32)), .val (.int ((own_ush32 (w2_w_bytes_q1 &&& (255 : Int32)) (0 : Int32)) &&& (255 : Int32)))] [(.int (8 : Int32)), (.int (8 : Int32))])) rfl (by rw [hml]; rfl) (argsL := [(.int (8 : Int32)), (.int (8 : Int32))]) (rest := []) (lenOf pd_1 rfl) rfl (by show 2 * 0 + _ ≤ _; exact Nat.le_of_eq rfl) (hb hby d7_68) (fun _ _ => ⟨rfl, e76, (by decide : 0 + 0 ≤ _), (by decide : 0 + 0 ≤ _)⟩)
  dsimp only [Pt.U, Pt.locs, Pt.cells, Pt.slots] at X77 l77 y77 z77 st77 hQ77
  subst l77 y77 z77
  obtain ⟨rfl, N77q, e77'⟩ := hQ77
  have N77 := Fr.app N74 N77q
  refine own_st ?_ st77
  show own_Fin _ _ _ _ T77 (mkF m 71 #[.val (.ref q1), .val (.int (32 : Int32)), .val (.ref q3), .val (.long (((8 : Int64) * (z_q1.toInt64)) - (0 : Int64))), .second, .val (.long ((((((0 : Int64) ||| (((own_ush32 (w0_w_bytes_q1 &&& (255 : Int32)) (0 : Int32)) &&& (255 : Int32)).toInt64)) <<< ((8 : Int32) &&& 63).toInt64) ||| (((own_ush32 (w1_w_bytes_q1 &&& (255 : Int32)) (0 : Int32)) &&& (255 : Int32)).toInt64)) <<< ((8 : Int32) &&& 63).toInt64) ||| (((own_ush32 (w2_w_bytes_q1 &&& (255 : Int32)) (0 : Int32)) &&& (255 : Int32)).toInt64))), .second, .val (.int (8 : Int32)), .val (.int (3 : Int32)), .val (.int (8 : Int32)), .val (.int (8 : Int32)), .val (.int ((own_ush32 (w2_w_bytes_q1 &&& (255 : Int32)) (0 : Int32)) &&& (255 : Int32)))] [(.int (own_f9 (8 : Int32) (8 : Int32)))])
  rw [(by decide : own_f9 (8 : Int32) (8 : Int32) = (8 : Int32))]
  show own_Fin _ _ _ _ T77 (mkF m 71 #[.val (.ref q1), .val (.int (32 : Int32)), .val (.ref q3), .val (.long (((8 : Int64) * (z_q1.toInt64)) - (0 : Int64))), .second, .val (.long ((((((0 : Int64) ||| (((own_ush32 (w0_w_bytes_q1 &&& (255 : Int32)) (0 : Int32)) &&& (255 : Int32)).toInt64)) <<< ((8 : Int32) &&& 63).toInt64) ||| (((own_ush32 (w1_w_bytes_q1 &&& (255 : Int32)) (0 : Int32)) &&& (255 : Int32)).toInt64)) <<< ((8 : Int32) &&& 63).toInt64) ||| (((own_ush32 (w2_w_bytes_q1 &&& (255 : Int32)) (0 : Int32)) &&& (255 : Int32)).toInt64))), .second, .val (.int (8 : Int32)), .val (.int (3 : Int32)), .val (.int (8 : Int32)), .val (.int (8 : Int32)), .val (.int ((own_ush32 (w2_w_bytes_q1 &&& (255 : Int32)) (0 : Int32)) &&& (255 : Int32)))] [(.int (8 : Int32))])
  refine own_istore X77 hx (hb hby d7_71) (pc' := 73) rfl (Ls' := #[.val (.ref q1), .val (.int (32 : Int32)), .val (.ref q3), .val (.long (((8 : Int64) * (z_q1.toInt64)) - (0 : Int64))), .second, .val (.long ((((((0 : Int64) ||| (((own_ush32 (w0_w_bytes_q1 &&& (255 : Int32)) (0 : Int32)) &&& (255 : Int32)).toInt64)) <<< ((8 : Int32) &&& 63).toInt64) ||| (((own_ush32 (w1_w_bytes_q1 &&& (255 : Int32)) (0 : Int32)) &&& (255 : Int32)).toInt64)) <<< ((8 : Int32) &&& 63).toInt64) ||| (((own_ush32 (w2_w_bytes_q1 &&& (255 : Int32)) (0 : Int32)) &&& (255 : Int32)).toInt64))), .second, .val (.int (8 : Int32)), .val (.int (3 : Int32)), .val (.int (8 : Int32)), .val (.int (8 : Int32)), .val (.int ((own_ush32 (w2_w_bytes_q1 &&& (255 : Int32)) (0 : Int32)) &&& (255 : Int32)))]) rfl ?_
  refine own_aloadN X77 hx (hb hby d7_73) (pc' := 74) rfl rfl rfl ?_
  refine own_getF X77 hx hZ hown (hw _ (List.mem_of_getElem? (i := 11) rfl)) Via.refl e77' F_q1_bytes_74 (hb hby d7_74) (pc' := 77) rfl (fun T78 X78 e78 => ?_)
  refine own_iload X78 hx (hb hby d7_77) (pc' := 79) rfl rfl ?_
  obtain ⟨cl79, Ar79, qa79, S79, M79, H79, G79⟩ := id A_w_bytes_q1_74
  have hin79 : ¬ ((3 : Int32) < 0 ∨ cl79.slots.size ≤ ((3 : Int32)).toNatClampNeg) := inb_of S79 ⟨by decide, hz⟩
  refine own_st ?_ (fun t k => X78.baloadBytes hx (j := (3 : Int32)) (v := (.int w3_w_bytes_q1)) (by rw [e78]; exact Ar79.1) (State.isArrayOf_alike hZ.alike Ar79.2.1) Ar79.2.2 hin79 (Has.at H79 hin79 rfl) (g := (mkF m 79 #[.val (.ref q1), .val (.int (32 : Int32)), .val (.ref q3), .val (.long (((8 : Int64) * (z_q1.toInt64)) - (0 : Int64))), .second, .val (.long ((((((0 : Int64) ||| (((own_ush32 (w0_w_bytes_q1 &&& (255 : Int32)) (0 : Int32)) &&& (255 : Int32)).toInt64)) <<< ((8 : Int32) &&& 63).toInt64) ||| (((own_ush32 (w1_w_bytes_q1 &&& (255 : Int32)) (0 : Int32)) &&& (255 : Int32)).toInt64)) <<< ((8 : Int32) &&& 63).toInt64) ||| (((own_ush32 (w2_w_bytes_q1 &&& (255 : Int32)) (0 : Int32)) &&& (255 : Int32)).toInt64))), .second, .val (.int (8 : Int32)), .val (.int (3 : Int32)), .val (.int (8 : Int32)), .val (.int (8 : Int32)), .val (.int ((own_ush32 (w2_w_bytes_q1 &&& (255 : Int32)) (0 : Int32)) &&& (255 : Int32)))] [(.int (3 : Int32)), (.ref w_bytes_q1)])) rfl rfl (hb hby d7_79) t k)
  show own_Fin _ _ _ _ T78 (mkF m 80 #[.val (.ref q1), .val (.int (32 : Int32)), .val (.ref q3), .val (.long (((8 : Int64) * (z_q1.toInt64)) - (0 : Int64))), .second, .val (.long ((((((0 : Int64) ||| (((own_ush32 (w0_w_bytes_q1 &&& (255 : Int32)) (0 : Int32)) &&& (255 : Int32)).toInt64)) <<< ((8 : Int32) &&& 63).toInt64) ||| (((own_ush32 (w1_w_bytes_q1 &&& (255 : Int32)) (0 : Int32)) &&& (255 : Int32)).toInt64)) <<< ((8 : Int32) &&& 63).toInt64) ||| (((own_ush32 (w2_w_bytes_q1 &&& (255 : Int32)) (0 : Int32)) &&& (255 : Int32)).toInt64))), .second, .val (.int (8 : Int32)), .val (.int (3 : Int32)), .val (.int (8 : Int32)), .val (.int (8 : Int32)), .val (.int ((own_ush32 (w2_w_bytes_q1 &&& (255 : Int32)) (0 : Int32)) &&& (255 : Int32)))] [(.int w3_w_bytes_q1)])
  refine own_sipush X78 hx (hb hby d7_80) (pc' := 83) rfl (v := (255 : Int32)) rfl ?_
  refine own_iand X78 hx (hb hby d7_83) (pc' := 84) rfl ?_
  refine own_iload X78 hx (hb hby d7_84) (pc' := 86) rfl rfl ?_
  refine own_iload X78 hx (hb hby d7_86) (pc' := 88) rfl rfl ?_
  refine own_isub X78 hx (hb hby d7_88) (pc' := 89) rfl ?_
  show own_Fin _ _ _ _ T78 (mkF m 89 #[.val (.ref q1), .val (.int (32 : Int32)), .val (.ref q3), .val (.long (((8 : Int64) * (z_q1.toInt64)) - (0 : Int64))), .second, .val (.long ((((((0 : Int64) ||| (((own_ush32 (w0_w_bytes_q1 &&& (255 : Int32)) (0 : Int32)) &&& (255 : Int32)).toInt64)) <<< ((8 : Int32) &&& 63).toInt64) ||| (((own_ush32 (w1_w_bytes_q1 &&& (255 : Int32)) (0 : Int32)) &&& (255 : Int32)).toInt64)) <<< ((8 : Int32) &&& 63).toInt64) ||| (((own_ush32 (w2_w_bytes_q1 &&& (255 : Int32)) (0 : Int32)) &&& (255 : Int32)).toInt64))), .second, .val (.int (8 : Int32)), .val (.int (3 : Int32)), .val (.int (8 : Int32)), .val (.int (8 : Int32)), .val (.int ((own_ush32 (w2_w_bytes_q1 &&& (255 : Int32)) (0 : Int32)) &&& (255 : Int32)))] [(.int (0 : Int32)), (.int (w3_w_bytes_q1 &&& (255 : Int32)))])
  refine own_iushr X78 hx (hb hby d7_89) (pc' := 90) rfl ?_
  refine own_iconst X78 hx (hb hby d7_90) (pc' := 91) rfl (v := (1 : Int32)) rfl ?_
  refine own_iload X78 hx (hb hby d7_91) (pc' := 93) rfl rfl ?_
  refine own_ishl X78 hx (hb hby d7_93) (pc' := 94) rfl ?_
  show own_Fin _ _ _ _ T78 (mkF m 94 #[.val (.ref q1), .val (.int (32 : Int32)), .val (.ref q3), .val (.long (((8 : Int64) * (z_q1.toInt64)) - (0 : Int64))), .second, .val (.long ((((((0 : Int64) ||| (((own_ush32 (w0_w_bytes_q1 &&& (255 : Int32)) (0 : Int32)) &&& (255 : Int32)).toInt64)) <<< ((8 : Int32) &&& 63).toInt64) ||| (((own_ush32 (w1_w_bytes_q1 &&& (255 : Int32)) (0 : Int32)) &&& (255 : Int32)).toInt64)) <<< ((8 : Int32) &&& 63).toInt64) ||| (((own_ush32 (w2_w_bytes_q1 &&& (255 : Int32)) (0 : Int32)) &&& (255 : Int32)).toInt64))), .second, .val (.int (8 : Int32)), .val (.int (3 : Int32)), .val (.int (8 : Int32)), .val (.int (8 : Int32)), .val (.int ((own_ush32 (w2_w_bytes_q1 &&& (255 : Int32)) (0 : Int32)) &&& (255 : Int32)))] [(.int (256 : Int32)), (.int (own_ush32 (w3_w_bytes_q1 &&& (255 : Int32)) (0 : Int32)))])
  refine own_iconst X78 hx (hb hby d7_94) (pc' := 95) rfl (v := (1 : Int32)) rfl ?_
  refine own_isub X78 hx (hb hby d7_95) (pc' := 96) rfl ?_
  show own_Fin _ _ _ _ T78 (mkF m 96 #[.val (.ref q1), .val (.int (32 : Int32)), .val (.ref q3), .val (.long (((8 : Int64) * (z_q1.toInt64)) - (0 : Int64))), .second, .val (.long ((((((0 : Int64) ||| (((own_ush32 (w0_w_bytes_q1 &&& (255 : Int32)) (0 : Int32)) &&& (255 : Int32)).toInt64)) <<< ((8 : Int32) &&& 63).toInt64) ||| (((own_ush32 (w1_w_bytes_q1 &&& (255 : Int32)) (0 : Int32)) &&& (255 : Int32)).toInt64)) <<< ((8 : Int32) &&& 63).toInt64) ||| (((own_ush32 (w2_w_bytes_q1 &&& (255 : Int32)) (0 : Int32)) &&& (255 : Int32)).toInt64))), .second, .val (.int (8 : Int32)), .val (.int (3 : Int32)), .val (.int (8 : Int32)), .val (.int (8 : Int32)), .val (.int ((own_ush32 (w2_w_bytes_q1 &&& (255 : Int32)) (0 : Int32)) &&& (255 : Int32)))] [(.int (255 : Int32)), (.int (own_ush32 (w3_w_bytes_q1 &&& (255 : Int32)) (0 : Int32)))])
  refine own_iand X78 hx (hb hby d7_96) (pc' := 97) rfl ?_
  refine own_istore X78 hx (hb hby d7_97) (pc' := 99) rfl (Ls' := #[.val (.ref q1), .val (.int (32 : Int32)), .val (.ref q3), .val (.long (((8 : Int64) * (z_q1.toInt64)) - (0 : Int64))), .second, .val (.long ((((((0 : Int64) ||| (((own_ush32 (w0_w_bytes_q1 &&& (255 : Int32)) (0 : Int32)) &&& (255 : Int32)).toInt64)) <<< ((8 : Int32) &&& 63).toInt64) ||| (((own_ush32 (w1_w_bytes_q1 &&& (255 : Int32)) (0 : Int32)) &&& (255 : Int32)).toInt64)) <<< ((8 : Int32) &&& 63).toInt64) ||| (((own_ush32 (w2_w_bytes_q1 &&& (255 : Int32)) (0 : Int32)) &&& (255 : Int32)).toInt64))), .second, .val (.int (8 : Int32)), .val (.int (3 : Int32)), .val (.int (8 : Int32)), .val (.int (8 : Int32)), .val (.int ((own_ush32 (w3_w_bytes_q1 &&& (255 : Int32)) (0 : Int32)) &&& (255 : Int32)))]) rfl ?_
  refine own_lload X78 hx (hb hby d7_99) (pc' := 101) rfl rfl ?_
  refine own_iload X78 hx (hb hby d7_101) (pc' := 103) rfl rfl ?_
  refine own_lshl X78 hx (hb hby d7_103) (pc' := 104) rfl ?_
  refine own_iload X78 hx (hb hby d7_104) (pc' := 106) rfl rfl ?_
  refine own_i2l X78 hx (hb hby d7_106) (pc' := 107) rfl ?_
  refine own_lor X78 hx (hb hby d7_107) (pc' := 108) rfl ?_
  refine own_lstore X78 hx (hb hby d7_108) (pc' := 110) rfl (Ls' := #[.val (.ref q1), .val (.int (32 : Int32)), .val (.ref q3), .val (.long (((8 : Int64) * (z_q1.toInt64)) - (0 : Int64))), .second, .val (.long ((((((((0 : Int64) ||| (((own_ush32 (w0_w_bytes_q1 &&& (255 : Int32)) (0 : Int32)) &&& (255 : Int32)).toInt64)) <<< ((8 : Int32) &&& 63).toInt64) ||| (((own_ush32 (w1_w_bytes_q1 &&& (255 : Int32)) (0 : Int32)) &&& (255 : Int32)).toInt64)) <<< ((8 : Int32) &&& 63).toInt64) ||| (((own_ush32 (w2_w_bytes_q1 &&& (255 : Int32)) (0 : Int32)) &&& (255 : Int32)).toInt64)) <<< ((8 : Int32) &&& 63).toInt64) ||| (((own_ush32 (w3_w_bytes_q1 &&& (255 : Int32)) (0 : Int32)) &&& (255 : Int32)).toInt64))), .second, .val (.int (8 : Int32)), .val (.int (3 : Int32)), .val (.int (8 : Int32)), .val (.int (8 : Int32)), .val (.int ((own_ush32 (w3_w_bytes_q1 &&& (255 : Int32)) (0 : Int32)) &&& (255 : Int32)))]) rfl ?_
  refine own_aloadN X78 hx (hb hby d7_110) (pc' := 111) rfl rfl rfl ?_
  refine own_dup X78 hx (hb hby d7_111) (pc' := 112) rfl rfl ?_
  refine own_getF X78 hx hZ hown (hw _ (List.mem_of_getElem? (i := 18) rfl)) Via.refl e78 F_q1_position_74 (hb hby d7_112) (pc' := 115) rfl (fun T80 X80 e80 => ?_)
  refine own_iload X80 hx (hb hby d7_115) (pc' := 117) rfl rfl ?_
  refine own_i2l X80 hx (hb hby d7_117) (pc' := 118) rfl ?_
  show own_Fin _ _ _ _ T80 (mkF m 118 #[.val (.ref q1), .val (.int (32 : Int32)), .val (.ref q3), .val (.long (((8 : Int64) * (z_q1.toInt64)) - (0 : Int64))), .second, .val (.long ((((((((0 : Int64) ||| (((own_ush32 (w0_w_bytes_q1 &&& (255 : Int32)) (0 : Int32)) &&& (255 : Int32)).toInt64)) <<< ((8 : Int32) &&& 63).toInt64) ||| (((own_ush32 (w1_w_bytes_q1 &&& (255 : Int32)) (0 : Int32)) &&& (255 : Int32)).toInt64)) <<< ((8 : Int32) &&& 63).toInt64) ||| (((own_ush32 (w2_w_bytes_q1 &&& (255 : Int32)) (0 : Int32)) &&& (255 : Int32)).toInt64)) <<< ((8 : Int32) &&& 63).toInt64) ||| (((own_ush32 (w3_w_bytes_q1 &&& (255 : Int32)) (0 : Int32)) &&& (255 : Int32)).toInt64))), .second, .val (.int (8 : Int32)), .val (.int (3 : Int32)), .val (.int (8 : Int32)), .val (.int (8 : Int32)), .val (.int ((own_ush32 (w3_w_bytes_q1 &&& (255 : Int32)) (0 : Int32)) &&& (255 : Int32)))] [(.long (8 : Int64)), (.long (24 : Int64)), (.ref q1)])
  refine own_ladd X80 hx (hb hby d7_118) (pc' := 119) rfl ?_
  show own_Fin _ _ _ _ T80 (mkF m 119 #[.val (.ref q1), .val (.int (32 : Int32)), .val (.ref q3), .val (.long (((8 : Int64) * (z_q1.toInt64)) - (0 : Int64))), .second, .val (.long ((((((((0 : Int64) ||| (((own_ush32 (w0_w_bytes_q1 &&& (255 : Int32)) (0 : Int32)) &&& (255 : Int32)).toInt64)) <<< ((8 : Int32) &&& 63).toInt64) ||| (((own_ush32 (w1_w_bytes_q1 &&& (255 : Int32)) (0 : Int32)) &&& (255 : Int32)).toInt64)) <<< ((8 : Int32) &&& 63).toInt64) ||| (((own_ush32 (w2_w_bytes_q1 &&& (255 : Int32)) (0 : Int32)) &&& (255 : Int32)).toInt64)) <<< ((8 : Int32) &&& 63).toInt64) ||| (((own_ush32 (w3_w_bytes_q1 &&& (255 : Int32)) (0 : Int32)) &&& (255 : Int32)).toInt64))), .second, .val (.int (8 : Int32)), .val (.int (3 : Int32)), .val (.int (8 : Int32)), .val (.int (8 : Int32)), .val (.int ((own_ush32 (w3_w_bytes_q1 &&& (255 : Int32)) (0 : Int32)) &&& (255 : Int32)))] [(.long (32 : Int64)), (.ref q1)])
  obtain ⟨T81, h81, X81, e81, W81, st81⟩ := putF X80 hx hZ hown (host := "") (Or.inl (hw _ (List.mem_of_getElem? (i := 18) rfl))) Via.refl e80 F_q1_position_74 E_q1_74 (Or.inl (hw _ (List.mem_of_getElem? (i := 19) rfl))) (hw _ (List.mem_of_getElem? (i := 3) rfl)) (ty := .long) (by decide) rfl rfl (g := (mkF m 119 #[.val (.ref q1), .val (.int (32 : Int32)), .val (.ref q3), .val (.long (((8 : Int64) * (z_q1.toInt64)) - (0 : Int64))), .second, .val (.long ((((((((0 : Int64) ||| (((own_ush32 (w0_w_bytes_q1 &&& (255 : Int32)) (0 : Int32)) &&& (255 : Int32)).toInt64)) <<< ((8 : Int32) &&& 63).toInt64) ||| (((own_ush32 (w1_w_bytes_q1 &&& (255 : Int32)) (0 : Int32)) &&& (255 : Int32)).toInt64)) <<< ((8 : Int32) &&& 63).toInt64) ||| (((own_ush32 (w2_w_bytes_q1 &&& (255 : Int32)) (0 : Int32)) &&& (255 : Int32)).toInt64)) <<< ((8 : Int32) &&& 63).toInt64) ||| (((own_ush32 (w3_w_bytes_q1 &&& (255 : Int32)) (0 : Int32)) &&& (255 : Int32)).toInt64))), .second, .val (.int (8 : Int32)), .val (.int (3 : Int32)), .val (.int (8 : Int32)), .val (.int (8 : Int32)), .val (.int ((own_ush32 (w3_w_bytes_q1 &&& (255 : Int32)) (0 : Int32)) &&& (255 : Int32)))] [(.long (32 : Int64)), (.ref q1)])) rfl rfl (hb hby d7_119)
  have E_q1_81 : Exa Z h81 q1 "com/example/typewire/typewire/packet/BitInput" := E_q1_74.wr W81
  have F_q1_bytes_81 : Fld Z h81 q1 "com/example/typewire/typewire/packet/BitInput" "bytes" "[B" (.ref w_bytes_q1) := F_q1_bytes_74.other W81 (Or.inr (slot_ne (Or.inr (hw _ (List.mem_of_getElem? (i := 12) rfl))) (Or.inl (hw _ (List.mem_of_getElem? (i := 19) rfl))) (by decide) (t := (.array .byte)) (t' := .long) (by decide) (by decide)))
  have F_q1_position_81 : Fld Z h81 q1 "com/example/typewire/typewire/packet/BitInput" "position" "J" (.long (32 : Int64)) := F_q1_position_74.same W81
  have A_w_bytes_q1_81 : Arv Z h81 w_bytes_q1 kc_w_bytes_q1 .byte z_q1 [(.int w0_w_bytes_q1), (.int w1_w_bytes_q1), (.int w2_w_bytes_q1), (.int w3_w_bytes_q1)] (.int (0 : Int32)) := A_w_bytes_q1_74.other W81 (Ne.symm ne_q1_w_bytes_q1)
  have N81 := Fr.snoc X81 N77 g_q1
  have sz81 : n0 ≤ h81.size := Nat.le_trans sz74 (Keep.of_wr W81).1
  have K81 : Keep h0 h81 [q1, w_bytes_q1] := K74.wr W81 (Or.inl (List.mem_of_getElem? (i := 0) rfl))
  refine own_st ?_ st81
  show own_Fin _ _ _ _ T81 (mkF m 122 #[.val (.ref q1), .val (.int (32 : Int32)), .val (.ref q3), .val (.long (((8 : Int64) * (z_q1.toInt64)) - (0 : Int64))), .second, .val (.long ((((((((0 : Int64) ||| (((own_ush32 (w0_w_bytes_q1 &&& (255 : Int32)) (0 : Int32)) &&& (255 : Int32)).toInt64)) <<< ((8 : Int32) &&& 63).toInt64) ||| (((own_ush32 (w1_w_bytes_q1 &&& (255 : Int32)) (0 : Int32)) &&& (255 : Int32)).toInt64)) <<< ((8 : Int32) &&& 63).toInt64) ||| (((own_ush32 (w2_w_bytes_q1 &&& (255 : Int32)) (0 : Int32)) &&& (255 : Int32)).toInt64)) <<< ((8 : Int32) &&& 63).toInt64) ||| (((own_ush32 (w3_w_bytes_q1 &&& (255 : Int32)) (0 : Int32)) &&& (255 : Int32)).toInt64))), .second, .val (.int (8 : Int32)), .val (.int (3 : Int32)), .val (.int (8 : Int32)), .val (.int (8 : Int32)), .val (.int ((own_ush32 (w3_w_bytes_q1 &&& (255 : Int32)) (0 : Int32)) &&& (255 : Int32)))] [])
  refine own_iload X81 hx (hb hby d7_122) (pc' := 124) rfl rfl ?_
  refine own_iload X81 hx (hb hby d7_124) (pc' := 126) rfl rfl ?_
  refine own_isub X81 hx (hb hby d7_126) (pc' := 127) rfl ?_
  show own_Fin _ _ _ _ T81 (mkF m 127 #[.val (.ref q1), .val (.int (32 : Int32)), .val (.ref q3), .val (.long (((8 : Int64) * (z_q1.toInt64)) - (0 : Int64))), .second, .val (.long ((((((((0 : Int64) ||| (((own_ush32 (w0_w_bytes_q1 &&& (255 : Int32)) (0 : Int32)) &&& (255 : Int32)).toInt64)) <<< ((8 : Int32) &&& 63).toInt64) ||| (((own_ush32 (w1_w_bytes_q1 &&& (255 : Int32)) (0 : Int32)) &&& (255 : Int32)).toInt64)) <<< ((8 : Int32) &&& 63).toInt64) ||| (((own_ush32 (w2_w_bytes_q1 &&& (255 : Int32)) (0 : Int32)) &&& (255 : Int32)).toInt64)) <<< ((8 : Int32) &&& 63).toInt64) ||| (((own_ush32 (w3_w_bytes_q1 &&& (255 : Int32)) (0 : Int32)) &&& (255 : Int32)).toInt64))), .second, .val (.int (8 : Int32)), .val (.int (3 : Int32)), .val (.int (8 : Int32)), .val (.int (8 : Int32)), .val (.int ((own_ush32 (w3_w_bytes_q1 &&& (255 : Int32)) (0 : Int32)) &&& (255 : Int32)))] [(.int (0 : Int32))])
  refine own_istore X81 hx (hb hby d7_127) (pc' := 129) rfl (Ls' := #[.val (.ref q1), .val (.int (32 : Int32)), .val (.ref q3), .val (.long (((8 : Int64) * (z_q1.toInt64)) - (0 : Int64))), .second, .val (.long ((((((((0 : Int64) ||| (((own_ush32 (w0_w_bytes_q1 &&& (255 : Int32)) (0 : Int32)) &&& (255 : Int32)).toInt64)) <<< ((8 : Int32) &&& 63).toInt64) ||| (((own_ush32 (w1_w_bytes_q1 &&& (255 : Int32)) (0 : Int32)) &&& (255 : Int32)).toInt64)) <<< ((8 : Int32) &&& 63).toInt64) ||| (((own_ush32 (w2_w_bytes_q1 &&& (255 : Int32)) (0 : Int32)) &&& (255 : Int32)).toInt64)) <<< ((8 : Int32) &&& 63).toInt64) ||| (((own_ush32 (w3_w_bytes_q1 &&& (255 : Int32)) (0 : Int32)) &&& (255 : Int32)).toInt64))), .second, .val (.int (0 : Int32)), .val (.int (3 : Int32)), .val (.int (8 : Int32)), .val (.int (8 : Int32)), .val (.int ((own_ush32 (w3_w_bytes_q1 &&& (255 : Int32)) (0 : Int32)) &&& (255 : Int32)))]) rfl ?_
  refine own_goto X81 hx (hb hby d7_129) (pc' := 34) (by decide) (by decide) ?_
  refine own_iload X81 hx (hb hby d7_34) (pc' := 36) rfl rfl ?_
  refine own_ifYes X81 hx (hb hby d7_36) ((if0 _ _).trans (flt (by decide : ¬ ((0 : Int32) < (0 : Int32)))).2.2.2) (pc' := 132) (by decide) (by decide) ?_
  refine own_lload X81 hx (hb hby d7_132) (pc' := 134) rfl rfl ?_
  refine own_retJ X81 hx hret hlk (hb hby d7_134) (by decide) (by decide) ?_
  show own_Q7s4 Z q1 q3 w_bytes_q1 z_q1 kc_w_bytes_q1 w0_w_bytes_q1 w1_w_bytes_q1 w2_w_bytes_q1 w3_w_bytes_q1 h0 n0 _ T81.heap _
  rw [e81]
  exact ⟨(congrArg some (congrArg Value.long (show ((((((((0 : Int64) ||| (((own_ush32 (w0_w_bytes_q1 &&& (255 : Int32)) (0 : Int32)) &&& (255 : Int32)).toInt64)) <<< ((8 : Int32) &&& 63).toInt64) ||| (((own_ush32 (w1_w_bytes_q1 &&& (255 : Int32)) (0 : Int32)) &&& (255 : Int32)).toInt64)) <<< ((8 : Int32) &&& 63).toInt64) ||| (((own_ush32 (w2_w_bytes_q1 &&& (255 : Int32)) (0 : Int32)) &&& (255 : Int32)).toInt64)) <<< ((8 : Int32) &&& 63).toInt64) ||| (((own_ush32 (w3_w_bytes_q1 &&& (255 : Int32)) (0 : Int32)) &&& (255 : Int32)).toInt64)) = (own_f7s4 z_q1 w0_w_bytes_q1 w1_w_bytes_q1 w2_w_bytes_q1 w3_w_bytes_q1) from by rw [own_f7s4]))), N81, K81, E_q1_81, F_q1_bytes_81, F_q1_position_81, A_w_bytes_q1_81⟩
theorem ef_7s4 (m : MethodId) (q1 : Addr) (q3 : Addr) : entryFrame m #[(.ref q1), (.int (32 : Int32)), (.ref q3)] 12 = mkF m 0 #[.val (.ref q1), .val (.int (32 : Int32)), .val (.ref q3), .unset, .unset, .unset, .unset, .unset, .unset, .unset, .unset, .unset] [] := by first | (simp [entryFrame, mkF, argsToLocals, Value.category]; done) | rfl
set_option maxRecDepth 65536 in
set_option maxHeartbeats 40000000 in
theorem rm7s4 (l : Launch) (Z : State) (a0 : Array Value) (hw : ∀ d ∈ tables_1, d.before a0 Z = true) (ws : List Jvm.Cond) (q1 : Addr) (q3 : Addr) (w_bytes_q1 : Addr) (z_q1 : Int32) (kc_w_bytes_q1 : ClassId) (w0_w_bytes_q1 : Int32) (w1_w_bytes_q1 : Int32) (w2_w_bytes_q1 : Int32) (w3_w_bytes_q1 : Int32) (h0 : Heap) (n0 : Nat) (Z0 : n0 ≤ h0.size) (E_q1 : Exa Z h0 q1 "com/example/typewire/typewire/packet/BitInput") (g_q1 : n0 ≤ q1) (F_bytes_q1 : Fld Z h0 q1 "com/example/typewire/typewire/packet/BitInput" "bytes" "[B" (.ref w_bytes_q1)) (F_position_q1 : Fld Z h0 q1 "com/example/typewire/typewire/packet/BitInput" "position" "J" (.long (0 : Int64))) (A_w_bytes_q1 : Arv Z h0 w_bytes_q1 kc_w_bytes_q1 .byte z_q1 [(.int w0_w_bytes_q1), (.int w1_w_bytes_q1), (.int w2_w_bytes_q1), (.int w3_w_bytes_q1)] (.int (0 : Int32))) (g_w_bytes_q1 : n0 ≤ w_bytes_q1) (ne_q1_w_bytes_q1 : q1 ≠ w_bytes_q1) (hz : (3 : Int32) < z_q1) (hc9 : ¬ ((((8 : Int64) * (z_q1.toInt64)) - (0 : Int64)) < (32 : Int64))) :
    MetFree l (⟨"com/example/typewire/typewire/packet/BitInput", "readBits", "(ILjava/lang/String;)J"⟩ : MethodName) (head1 (Jvm.Cond.code (⟨"com/example/typewire/typewire/packet/BitInput", "readBits", "(ILjava/lang/String;)J"⟩ : MethodName) prog_12_method_3_code 12 (some .long) :: ws) ({ frames := 1, cells := 0, slots := 0, locals := 13 } : Room)) (fun a U => a = #[(.ref q1), (.int (32 : Int32)), (.ref q3)] ∧ Z.Warmed39 U.vm ∧ U.heap = h0) (fun _ _ _ _ _ => True) (fun _ U o U' => ∃ v L, o = .returned v ∧ (own_Q7s4 Z q1 q3 w_bytes_q1 z_q1 kc_w_bytes_q1 w0_w_bytes_q1 w1_w_bytes_q1 w2_w_bytes_q1 w3_w_bytes_q1 h0 n0) v U'.heap L ∧ FrameEnd U o U' L ({ frames := 1, cells := 0, slots := 0, locals := 13 } : Room).cells ({ frames := 1, cells := 0, slots := 0, locals := 13 } : Room).slots) := by
  refine MetFree.of_bodySF (plainFor_of_name pn_7) hisR ?_
  intro p e s m args below meth c s₁ Bd hml0 hP hK
  obtain ⟨rfl, hZ, hh⟩ := hP
  have hown : s.vm.findClass "com/example/typewire/typewire/packet/BitInput" = some m.cls := findClass_of_methodNamed Bd.named
  have hnm := (name_of_methodNamed Bd.named Bd.method).1
  have X0 : Stand p l e ({ frames := 1, cells := 0, slots := 0, locals := 13 } : Room) s m #[(.ref q1), (.int (32 : Int32)), (.ref q3)] below meth c s₁ [] 0 0 := Stand.of_body Bd
  have e0 : s₁.heap = h0 := by rw [← hh, Bd.state]; rfl
  have H := sg7s4_0 l hw Bd.exec hZ Bd.bytes hml0 hown hnm Bd.returns Bd.notSynchronized q1 q3 w_bytes_q1 z_q1 kc_w_bytes_q1 w0_w_bytes_q1 w1_w_bytes_q1 w2_w_bytes_q1 w3_w_bytes_q1 Z0 X0 (Fr.nil n0) e0 E_q1 g_q1 F_bytes_q1 F_position_q1 A_w_bytes_q1 g_w_bytes_q1 ne_q1_w_bytes_q1 hz hc9
  obtain ⟨t, h1, h2, o, h3, h4⟩ := H
  exact ⟨t, o, castTop (ef_7s4 m q1 q3) h1, h2, h3, h4⟩
theorem d3_0 : decode prog_12_method_5_code 0 = .ok (.aload_n 0, 1) := by decide +kernel
theorem d3_1 : decode prog_12_method_5_code 1 = .ok (.getfield 13, 3) := by decide +kernel
theorem d3_4 : decode prog_12_method_5_code 4 = .ok (.ldc2_w 31, 3) := by decide +kernel
theorem d3_7 : decode prog_12_method_5_code 7 = .ok (.ldiv, 1) := by decide +kernel
theorem d3_8 : decode prog_12_method_5_code 8 = .ok (.l2i, 1) := by decide +kernel
theorem d3_9 : decode prog_12_method_5_code 9 = .ok (.istore 4, 2) := by decide +kernel
theorem d3_11 : decode prog_12_method_5_code 11 = .ok (.lload_n 2, 1) := by decide +kernel
theorem d3_12 : decode prog_12_method_5_code 12 = .ok (.aload_n 0, 1) := by decide +kernel
theorem d3_13 : decode prog_12_method_5_code 13 = .ok (.getfield 7, 3) := by decide +kernel
theorem d3_16 : decode prog_12_method_5_code 16 = .ok (.arraylength, 1) := by decide +kernel
theorem d3_17 : decode prog_12_method_5_code 17 = .ok (.iload 4, 2) := by decide +kernel
theorem d3_19 : decode prog_12_method_5_code 19 = .ok (.isub, 1) := by decide +kernel
theorem d3_20 : decode prog_12_method_5_code 20 = .ok (.i2l, 1) := by decide +kernel
theorem d3_21 : decode prog_12_method_5_code 21 = .ok (.lcmp, 1) := by decide +kernel
theorem d3_22 : decode prog_12_method_5_code 22 = .ok (.ifCond .ge 13, 3) := by decide +kernel
theorem d3_25 : decode prog_12_method_5_code 25 = .ok (.iload 4, 2) := by decide +kernel
theorem d3_27 : decode prog_12_method_5_code 27 = .ok (.i2l, 1) := by decide +kernel
theorem d3_28 : decode prog_12_method_5_code 28 = .ok (.lload_n 2, 1) := by decide +kernel
theorem d3_29 : decode prog_12_method_5_code 29 = .ok (.ladd, 1) := by decide +kernel
theorem d3_30 : decode prog_12_method_5_code 30 = .ok (.lconst 1, 1) := by decide +kernel
theorem d3_31 : decode prog_12_method_5_code 31 = .ok (.ladd, 1) := by decide +kernel
theorem d3_32 : decode prog_12_method_5_code 32 = .ok (.goto 9, 3) := by decide +kernel
theorem d3_35 : decode prog_12_method_5_code 35 = .ok (.aload_n 0, 1) := by decide +kernel
theorem d3_36 : decode prog_12_method_5_code 36 = .ok (.getfield 7, 3) := by decide +kernel
theorem d3_39 : decode prog_12_method_5_code 39 = .ok (.arraylength, 1) := by decide +kernel
theorem d3_40 : decode prog_12_method_5_code 40 = .ok (.i2l, 1) := by decide +kernel
theorem d3_41 : decode prog_12_method_5_code 41 = .ok (.lstore 5, 2) := by decide +kernel
theorem d3_43 : decode prog_12_method_5_code 43 = .ok (.ldc2_w 49, 3) := by decide +kernel
theorem d3_46 : decode prog_12_method_5_code 46 = .ok (.lstore 7, 2) := by decide +kernel
theorem d3_48 : decode prog_12_method_5_code 48 = .ok (.iload 4, 2) := by decide +kernel
theorem d3_50 : decode prog_12_method_5_code 50 = .ok (.istore 9, 2) := by decide +kernel
theorem d3_52 : decode prog_12_method_5_code 52 = .ok (.iload 9, 2) := by decide +kernel
theorem d3_54 : decode prog_12_method_5_code 54 = .ok (.i2l, 1) := by decide +kernel
theorem d3_55 : decode prog_12_method_5_code 55 = .ok (.lload 5, 2) := by decide +kernel
theorem d3_57 : decode prog_12_method_5_code 57 = .ok (.lcmp, 1) := by decide +kernel
theorem d3_58 : decode prog_12_method_5_code 58 = .ok (.ifCond .ge 39, 3) := by decide +kernel
theorem d3_61 : decode prog_12_method_5_code 61 = .ok (.lload 7, 2) := by decide +kernel
theorem d3_63 : decode prog_12_method_5_code 63 = .ok (.lconst 0, 1) := by decide +kernel
theorem d3_64 : decode prog_12_method_5_code 64 = .ok (.lcmp, 1) := by decide +kernel
theorem d3_65 : decode prog_12_method_5_code 65 = .ok (.ifCond .ge 32, 3) := by decide +kernel
theorem d3_68 : decode prog_12_method_5_code 68 = .ok (.aload_n 0, 1) := by decide +kernel
theorem d3_69 : decode prog_12_method_5_code 69 = .ok (.getfield 7, 3) := by decide +kernel
theorem d3_72 : decode prog_12_method_5_code 72 = .ok (.iload 9, 2) := by decide +kernel
theorem d3_74 : decode prog_12_method_5_code 74 = .ok (.baload, 1) := by decide +kernel
theorem d3_75 : decode prog_12_method_5_code 75 = .ok (.sipush 255, 3) := by decide +kernel
theorem d3_78 : decode prog_12_method_5_code 78 = .ok (.iand, 1) := by decide +kernel
theorem d3_79 : decode prog_12_method_5_code 79 = .ok (.iload_n 1, 1) := by decide +kernel
theorem d3_80 : decode prog_12_method_5_code 80 = .ok (.if_icmp .ne 11, 3) := by decide +kernel
theorem d3_83 : decode prog_12_method_5_code 83 = .ok (.iload 9, 2) := by decide +kernel
theorem d3_85 : decode prog_12_method_5_code 85 = .ok (.iload 4, 2) := by decide +kernel
theorem d3_87 : decode prog_12_method_5_code 87 = .ok (.isub, 1) := by decide +kernel
theorem d3_88 : decode prog_12_method_5_code 88 = .ok (.i2l, 1) := by decide +kernel
theorem d3_89 : decode prog_12_method_5_code 89 = .ok (.lstore 7, 2) := by decide +kernel
theorem d3_91 : decode prog_12_method_5_code 91 = .ok (.iinc 9 1, 3) := by decide +kernel
theorem d3_94 : decode prog_12_method_5_code 94 = .ok (.goto (-42), 3) := by decide +kernel
theorem d3_97 : decode prog_12_method_5_code 97 = .ok (.lload 7, 2) := by decide +kernel
theorem d3_99 : decode prog_12_method_5_code 99 = .ok (.lreturn, 1) := by decide +kernel
theorem pn_3 : plainName "com/example/typewire/typewire/packet/BitInput" = true := by first | (simp [plainName, overriddenIn]; done) | decide +kernel
def own_f3s0 (q2 : Int32) (q3 : Int64) (z_q1 : Int32) (w0_w_bytes_q1 : Int32) (w1_w_bytes_q1 : Int32) (w2_w_bytes_q1 : Int32) (w3_w_bytes_q1 : Int32) : Int64 :=
  if q3 < ((z_q1 - (0 : Int32)).toInt64) then (if (0 : Int64) < (((0 : Int64) + q3) + (1 : Int64)) then (if (w0_w_bytes_q1 &&& (255 : Int32)) = q2 then (if (1 : Int64) < (((0 : Int64) + q3) + (1 : Int64)) then (0 : Int64) else
    (0 : Int64)) else
    if (1 : Int64) < (((0 : Int64) + q3) + (1 : Int64)) then (if (w1_w_bytes_q1 &&& (255 : Int32)) = q2 then (if (2 : Int64) < (((0 : Int64) + q3) + (1 : Int64)) then (1 : Int64) else
    (1 : Int64)) else
    if (2 : Int64) < (((0 : Int64) + q3) + (1 : Int64)) then (if (w2_w_bytes_q1 &&& (255 : Int32)) = q2 then (if (3 : Int64) < (((0 : Int64) + q3) + (1 : Int64)) then (2 : Int64) else
    (2 : Int64)) else
    if (3 : Int64) < (((0 : Int64) + q3) + (1 : Int64)) then (if (w3_w_bytes_q1 &&& (255 : Int32)) = q2 then (3 : Int64) else
    (-1 : Int64)) else
    (-1 : Int64)) else
    (-1 : Int64)) else
    (-1 : Int64)) else
    (-1 : Int64)) else
  if (0 : Int64) < (z_q1.toInt64) then (if (w0_w_bytes_q1 &&& (255 : Int32)) = q2 then (if (1 : Int64) < (z_q1.toInt64) then (0 : Int64) else
    (0 : Int64)) else
    if (1 : Int64) < (z_q1.toInt64) then (if (w1_w_bytes_q1 &&& (255 : Int32)) = q2 then (if (2 : Int64) < (z_q1.toInt64) then (1 : Int64) else
    (1 : Int64)) else
    if (2 : Int64) < (z_q1.toInt64) then (if (w2_w_bytes_q1 &&& (255 : Int32)) = q2 then (if (3 : Int64) < (z_q1.toInt64) then (2 : Int64) else
    (2 : Int64)) else
    if (3 : Int64) < (z_q1.toInt64) then (if (w3_w_bytes_q1 &&& (255 : Int32)) = q2 then (3 : Int64) else
    (-1 : Int64)) else
    (-1 : Int64)) else
    (-1 : Int64)) else
    (-1 : Int64)) else
  (-1 : Int64)
set_option maxRecDepth 65536 in
set_option maxHeartbeats 40000000 in
theorem sg3s0_0 {p : Program} (l : Launch) {e : Env} {s : State} {m : MethodId} {args : Array Value} {below : List Frame} {meth : Method} {c : Code} {Z : State} {a0 : Array Value} (hw : ∀ d ∈ tables_1, d.before a0 Z = true) (hx : p.tables.exec = Jvm.exec) (hZ : Z.Warmed39 s.vm) (hby : c.code = prog_12_method_5_code) (hml : c.maxLocals = 10) (hown : s.vm.findClass "com/example/typewire/typewire/packet/BitInput" = some m.cls) (hnm : meth.name = "bytesBefore") (hret : meth.sig.returnType = (some .long)) (hlk : meth.locks = false) (q1 : Addr) (q2 : Int32) (q3 : Int64) (w_bytes_q1 : Addr) (z_q1 : Int32) (kc_w_bytes_q1 : ClassId) (w0_w_bytes_q1 : Int32) (w1_w_bytes_q1 : Int32) (w2_w_bytes_q1 : Int32) (w3_w_bytes_q1 : Int32) {h0 : Heap} {n0 : Nat} (Z0 : n0 ≤ h0.size) {T0 : State} {L0 : List Loc} (X0 : Stand p l e ({ frames := 0, cells := 0, slots := 0, locals := 0 } : Room) s m args below meth c T0 L0 0 0) (N0 : Fr n0 L0) (e0 : T0.heap = h0) (E_q1 : Exa Z h0 q1 "com/example/typewire/typewire/packet/BitInput") (F_bytes_q1 : Fld Z h0 q1 "com/example/typewire/typewire/packet/BitInput" "bytes" "[B" (.ref w_bytes_q1)) (F_position_q1 : Fld Z h0 q1 "com/example/typewire/typewire/packet/BitInput" "position" "J" (.long (0 : Int64))) (A_w_bytes_q1 : Arv Z h0 w_bytes_q1 kc_w_bytes_q1 .byte z_q1 [(.int w0_w_bytes_q1), (.int w1_w_bytes_q1), (.int w2_w_bytes_q1), (.int w3_w_bytes_q1)] (.int (0 : Int32))) (hz4 : 0 ≤ z_q1.toInt ∧ z_q1.toInt ≤ 4) :
    own_Fin p.tables e below (own_End below s (own_P h0 n0 (some (.long (own_f3s0 q2 q3 z_q1 w0_w_bytes_q1 w1_w_bytes_q1 w2_w_bytes_q1 w3_w_bytes_q1)))) 0 0) T0 (mkF m 0 #[.val (.ref q1), .val (.int q2), .val (.long q3), .second, .unset, .unset, .unset, .unset, .unset, .unset] []) := by
  refine own_aloadN X0 hx (hb hby d3_0) (pc' := 1) rfl rfl rfl ?_
  refine own_getF X0 hx hZ hown (hw _ (List.mem_of_getElem? (i := 18) rfl)) Via.refl e0 F_position_q1 (hb hby d3_1) (pc' := 4) rfl (fun T82 X82 e82 => ?_)
  refine own_ldc2Long X82 hx hZ hown (hw _ (List.mem_of_getElem? (i := 20) rfl)) (hb hby d3_4) (pc' := 7) rfl ?_
  refine own_ldiv X82 hx (hb hby d3_7) (pc' := 8) rfl (by decide) ?_
  show own_Fin _ _ _ _ T82 (mkF m 8 #[.val (.ref q1), .val (.int q2), .val (.long q3), .second, .unset, .unset, .unset, .unset, .unset, .unset] [(.long (0 : Int64))])
  refine own_l2i X82 hx (hb hby d3_8) (pc' := 9) rfl ?_
  show own_Fin _ _ _ _ T82 (mkF m 9 #[.val (.ref q1), .val (.int q2), .val (.long q3), .second, .unset, .unset, .unset, .unset, .unset, .unset] [(.int (0 : Int32))])
  refine own_istore X82 hx (hb hby d3_9) (pc' := 11) rfl (Ls' := #[.val (.ref q1), .val (.int q2), .val (.long q3), .second, .val (.int (0 : Int32)), .unset, .unset, .unset, .unset, .unset]) rfl ?_
  refine own_lloadN X82 hx (hb hby d3_11) (pc' := 12) rfl rfl ?_
  refine own_aloadN X82 hx (hb hby d3_12) (pc' := 13) rfl rfl rfl ?_
  refine own_getF X82 hx hZ hown (hw _ (List.mem_of_getElem? (i := 11) rfl)) Via.refl e82 F_bytes_q1 (hb hby d3_13) (pc' := 16) rfl (fun T83 X83 e83 => ?_)
  obtain ⟨cl84, Ar84, qa84, S84, M84, H84, G84⟩ := id A_w_bytes_q1
  refine own_st ?_ (fun t k => X83.arraylength hx (by rw [e83]; exact Ar84.1) (State.isArrayOf_alike hZ.alike Ar84.2.1) (g := (mkF m 16 #[.val (.ref q1), .val (.int q2), .val (.long q3), .second, .val (.int (0 : Int32)), .unset, .unset, .unset, .unset, .unset] [(.ref w_bytes_q1), (.long q3)])) rfl rfl (hb hby d3_16) t k)
  rw [len_of S84 M84]
  show own_Fin _ _ _ _ T83 (mkF m 17 #[.val (.ref q1), .val (.int q2), .val (.long q3), .second, .val (.int (0 : Int32)), .unset, .unset, .unset, .unset, .unset] [(.int z_q1), (.long q3)])
  refine own_iload X83 hx (hb hby d3_17) (pc' := 19) rfl rfl ?_
  refine own_isub X83 hx (hb hby d3_19) (pc' := 20) rfl ?_
  refine own_i2l X83 hx (hb hby d3_20) (pc' := 21) rfl ?_
  refine own_lcmp X83 hx (hb hby d3_21) (pc' := 22) rfl ?_
  by_cases hc85 : q3 < ((z_q1 - (0 : Int32)).toInt64)
  · refine own_ifNo X83 hx (hb hby d3_22) (pc' := 25) rfl ((if0 _ _).trans (tlt (own_lc_lt.mpr hc85)).2.1) ?_
    refine own_iload X83 hx (hb hby d3_25) (pc' := 27) rfl rfl ?_
    refine own_i2l X83 hx (hb hby d3_27) (pc' := 28) rfl ?_
    show own_Fin _ _ _ _ T83 (mkF m 28 #[.val (.ref q1), .val (.int q2), .val (.long q3), .second, .val (.int (0 : Int32)), .unset, .unset, .unset, .unset, .unset] [(.long (0 : Int64))])
    refine own_lloadN X83 hx (hb hby d3_28) (pc' := 29) rfl rfl ?_
    refine own_ladd X83 hx (hb hby d3_29) (pc' := 30) rfl ?_
    refine own_lconst X83 hx (hb hby d3_30) (pc' := 31) rfl (v := (1 : Int64)) rfl ?_
    refine own_ladd X83 hx (hb hby d3_31) (pc' := 32) rfl ?_
    refine own_goto X83 hx (hb hby d3_32) (pc' := 41) (by decide) (by decide) ?_
    refine own_lstore X83 hx (hb hby d3_41) (pc' := 43) rfl (Ls' := #[.val (.ref q1), .val (.int q2), .val (.long q3), .second, .val (.int (0 : Int32)), .val (.long (((0 : Int64) + q3) + (1 : Int64))), .second, .unset, .unset, .unset]) rfl ?_
    have hE : ¬ ((4 : Int64) < (((0 : Int64) + q3) + (1 : Int64))) := own_out2 (k := (0 : Int32)) hz4 (by decide) hc85
    refine own_ldc2Long X83 hx hZ hown (hw _ (List.mem_of_getElem? (i := 21) rfl)) (hb hby d3_43) (pc' := 46) rfl ?_
    refine own_lstore X83 hx (hb hby d3_46) (pc' := 48) rfl (Ls' := #[.val (.ref q1), .val (.int q2), .val (.long q3), .second, .val (.int (0 : Int32)), .val (.long (((0 : Int64) + q3) + (1 : Int64))), .second, .val (.long (-1 : Int64)), .second, .unset]) rfl ?_
    refine own_iload X83 hx (hb hby d3_48) (pc' := 50) rfl rfl ?_
    refine own_istore X83 hx (hb hby d3_50) (pc' := 52) rfl (Ls' := #[.val (.ref q1), .val (.int q2), .val (.long q3), .second, .val (.int (0 : Int32)), .val (.long (((0 : Int64) + q3) + (1 : Int64))), .second, .val (.long (-1 : Int64)), .second, .val (.int (0 : Int32))]) rfl ?_
    refine own_iload X83 hx (hb hby d3_52) (pc' := 54) rfl rfl ?_
    refine own_i2l X83 hx (hb hby d3_54) (pc' := 55) rfl ?_
    show own_Fin _ _ _ _ T83 (mkF m 55 #[.val (.ref q1), .val (.int q2), .val (.long q3), .second, .val (.int (0 : Int32)), .val (.long (((0 : Int64) + q3) + (1 : Int64))), .second, .val (.long (-1 : Int64)), .second, .val (.int (0 : Int32))] [(.long (0 : Int64))])
    refine own_lload X83 hx (hb hby d3_55) (pc' := 57) rfl rfl ?_
    refine own_lcmp X83 hx (hb hby d3_57) (pc' := 58) rfl ?_
    by_cases hc86 : (0 : Int64) < (((0 : Int64) + q3) + (1 : Int64))
    · refine own_ifNo X83 hx (hb hby d3_58) (pc' := 61) rfl ((if0 _ _).trans (tlt (own_lc_lt.mpr hc86)).2.1) ?_
      refine own_lload X83 hx (hb hby d3_61) (pc' := 63) rfl rfl ?_
      refine own_lconst X83 hx (hb hby d3_63) (pc' := 64) rfl (v := (0 : Int64)) rfl ?_
      refine own_lcmp X83 hx (hb hby d3_64) (pc' := 65) rfl ?_
      refine own_ifNo X83 hx (hb hby d3_65) (pc' := 68) rfl ((if0 _ _).trans (tlt (own_lc_lt.mpr (by decide : (-1 : Int64) < (0 : Int64)))).2.1) ?_
      have hz87 : (0 : Int32) < z_q1 := own_in2 (k := (0 : Int32)) hz4 (by decide) hc85 hc86
      refine own_aloadN X83 hx (hb hby d3_68) (pc' := 69) rfl rfl rfl ?_
      refine own_getF X83 hx hZ hown (hw _ (List.mem_of_getElem? (i := 11) rfl)) Via.refl e83 F_bytes_q1 (hb hby d3_69) (pc' := 72) rfl (fun T88 X88 e88 => ?_)
      refine own_iload X88 hx (hb hby d3_72) (pc' := 74) rfl rfl ?_
      obtain ⟨cl89, Ar89, qa89, S89, M89, H89, G89⟩ := id A_w_bytes_q1
      have hin89 : ¬ ((0 : Int32) < 0 ∨ cl89.slots.size ≤ ((0 : Int32)).toNatClampNeg) := inb_of S89 ⟨by decide, hz87⟩
      refine own_st ?_ (fun t k => X88.baloadBytes hx (j := (0 : Int32)) (v := (.int w0_w_bytes_q1)) (by rw [e88]; exact Ar89.1) (State.isArrayOf_alike hZ.alike Ar89.2.1) Ar89.2.2 hin89 (Has.at H89 hin89 rfl) (g := (mkF m 74 #[.val (.ref q1), .val (.int q2), .val (.long q3), .second, .val (.int (0 : Int32)), .val (.long (((0 : Int64) + q3) + (1 : Int64))), .second, .val (.long (-1 : Int64)), .second, .val (.int (0 : Int32))] [(.int (0 : Int32)), (.ref w_bytes_q1)])) rfl rfl (hb hby d3_74) t k)
      show own_Fin _ _ _ _ T88 (mkF m 75 #[.val (.ref q1), .val (.int q2), .val (.long q3), .second, .val (.int (0 : Int32)), .val (.long (((0 : Int64) + q3) + (1 : Int64))), .second, .val (.long (-1 : Int64)), .second, .val (.int (0 : Int32))] [(.int w0_w_bytes_q1)])
      refine own_sipush X88 hx (hb hby d3_75) (pc' := 78) rfl (v := (255 : Int32)) rfl ?_
      refine own_iand X88 hx (hb hby d3_78) (pc' := 79) rfl ?_
      refine own_iloadN X88 hx (hb hby d3_79) (pc' := 80) rfl rfl ?_
      by_cases hc90 : (w0_w_bytes_q1 &&& (255 : Int32)) = q2
      · refine own_icmpNo X88 hx (hb hby d3_80) (pc' := 83) rfl (teq hc90).2 ?_
        refine own_iload X88 hx (hb hby d3_83) (pc' := 85) rfl rfl ?_
        refine own_iload X88 hx (hb hby d3_85) (pc' := 87) rfl rfl ?_
        refine own_isub X88 hx (hb hby d3_87) (pc' := 88) rfl ?_
        show own_Fin _ _ _ _ T88 (mkF m 88 #[.val (.ref q1), .val (.int q2), .val (.long q3), .second, .val (.int (0 : Int32)), .val (.long (((0 : Int64) + q3) + (1 : Int64))), .second, .val (.long (-1 : Int64)), .second, .val (.int (0 : Int32))] [(.int (0 : Int32))])
        refine own_i2l X88 hx (hb hby d3_88) (pc' := 89) rfl ?_
        show own_Fin _ _ _ _ T88 (mkF m 89 #[.val (.ref q1), .val (.int q2), .val (.long q3), .second, .val (.int (0 : Int32)), .val (.long (((0 : Int64) + q3) + (1 : Int64))), .second, .val (.long (-1 : Int64)), .second, .val (.int (0 : Int32))] [(.long (0 : Int64))])
        refine own_lstore X88 hx (hb hby d3_89) (pc' := 91) rfl (Ls' := #[.val (.ref q1), .val (.int q2), .val (.long q3), .second, .val (.int (0 : Int32)), .val (.long (((0 : Int64) + q3) + (1 : Int64))), .second, .val (.long (0 : Int64)), .second, .val (.int (0 : Int32))]) rfl ?_
        refine own_iinc X88 hx (hb hby d3_91) (pc' := 94) rfl (Ls' := #[.val (.ref q1), .val (.int q2), .val (.long q3), .second, .val (.int (0 : Int32)), .val (.long (((0 : Int64) + q3) + (1 : Int64))), .second, .val (.long (0 : Int64)), .second, .val (.int (1 : Int32))]) rfl rfl ?_
        refine own_goto X88 hx (hb hby d3_94) (pc' := 52) (by decide) (by decide) ?_
        refine own_iload X88 hx (hb hby d3_52) (pc' := 54) rfl rfl ?_
        refine own_i2l X88 hx (hb hby d3_54) (pc' := 55) rfl ?_
        show own_Fin _ _ _ _ T88 (mkF m 55 #[.val (.ref q1), .val (.int q2), .val (.long q3), .second, .val (.int (0 : Int32)), .val (.long (((0 : Int64) + q3) + (1 : Int64))), .second, .val (.long (0 : Int64)), .second, .val (.int (1 : Int32))] [(.long (1 : Int64))])
        refine own_lload X88 hx (hb hby d3_55) (pc' := 57) rfl rfl ?_
        refine own_lcmp X88 hx (hb hby d3_57) (pc' := 58) rfl ?_
        by_cases hc91 : (1 : Int64) < (((0 : Int64) + q3) + (1 : Int64))
        · refine own_ifNo X88 hx (hb hby d3_58) (pc' := 61) rfl ((if0 _ _).trans (tlt (own_lc_lt.mpr hc91)).2.1) ?_
          refine own_lload X88 hx (hb hby d3_61) (pc' := 63) rfl rfl ?_
          refine own_lconst X88 hx (hb hby d3_63) (pc' := 64) rfl (v := (0 : Int64)) rfl ?_
          refine own_lcmp X88 hx (hb hby d3_64) (pc' := 65) rfl ?_
          refine own_ifYes X88 hx (hb hby d3_65) ((if0 _ _).trans (flt (mt own_lc_lt.mp (by decide : ¬ ((0 : Int64) < (0 : Int64))))).2.1) (pc' := 97) (by decide) (by decide) ?_
          refine own_lload X88 hx (hb hby d3_97) (pc' := 99) rfl rfl ?_
          refine own_retJ X88 hx hret hlk (hb hby d3_99) (by decide) (by decide) ?_
          show own_P _ _ _ _ T88.heap _
          exact ⟨(congrArg some (congrArg Value.long (show (0 : Int64) = (own_f3s0 q2 q3 z_q1 w0_w_bytes_q1 w1_w_bytes_q1 w2_w_bytes_q1 w3_w_bytes_q1) from by rw [own_f3s0, if_pos hc85, if_pos hc86, if_pos hc90, if_pos hc91]))), N0, e88⟩
        · refine own_ifYes X88 hx (hb hby d3_58) ((if0 _ _).trans (flt (mt own_lc_lt.mp hc91)).2.1) (pc' := 97) (by decide) (by decide) ?_
          refine own_lload X88 hx (hb hby d3_97) (pc' := 99) rfl rfl ?_
          refine own_retJ X88 hx hret hlk (hb hby d3_99) (by decide) (by decide) ?_
          show own_P _ _ _ _ T88.heap _
          exact ⟨(congrArg some (congrArg Value.long (show (0 : Int64) = (own_f3s0 q2 q3 z_q1 w0_w_bytes_q1 w1_w_bytes_q1 w2_w_bytes_q1 w3_w_bytes_q1) from by rw [own_f3s0, if_pos hc85, if_pos hc86, if_pos hc90, if_neg hc91]))), N0, e88⟩
      · refine own_icmpYes X88 hx (hb hby d3_80) (feq hc90).2 (pc' := 91) (by decide) (by decide) ?_
        refine own_iinc X88 hx (hb hby d3_91) (pc' := 94) rfl (Ls' := #[.val (.ref q1), .val (.int q2), .val (.long q3), .second, .val (.int (0 : Int32)), .val (.long (((0 : Int64) + q3) + (1 : Int64))), .second, .val (.long (-1 : Int64)), .second, .val (.int (1 : Int32))]) rfl rfl ?_
        refine own_goto X88 hx (hb hby d3_94) (pc' := 52) (by decide) (by decide) ?_
        refine own_iload X88 hx (hb hby d3_52) (pc' := 54) rfl rfl ?_
        refine own_i2l X88 hx (hb hby d3_54) (pc' := 55) rfl ?_
        show own_Fin _ _ _ _ T88 (mkF m 55 #[.val (.ref q1), .val (.int q2), .val (.long q3), .second, .val (.int (0 : Int32)), .val (.long (((0 : Int64) + q3) + (1 : Int64))), .second, .val (.long (-1 : Int64)), .second, .val (.int (1 : Int32))] [(.long (1 : Int64))])
        refine own_lload X88 hx (hb hby d3_55) (pc' := 57) rfl rfl ?_
        refine own_lcmp X88 hx (hb hby d3_57) (pc' := 58) rfl ?_
        by_cases hc92 : (1 : Int64) < (((0 : Int64) + q3) + (1 : Int64))
        · refine own_ifNo X88 hx (hb hby d3_58) (pc' := 61) rfl ((if0 _ _).trans (tlt (own_lc_lt.mpr hc92)).2.1) ?_
          refine own_lload X88 hx (hb hby d3_61) (pc' := 63) rfl rfl ?_
          refine own_lconst X88 hx (hb hby d3_63) (pc' := 64) rfl (v := (0 : Int64)) rfl ?_
          refine own_lcmp X88 hx (hb hby d3_64) (pc' := 65) rfl ?_
          refine own_ifNo X88 hx (hb hby d3_65) (pc' := 68) rfl ((if0 _ _).trans (tlt (own_lc_lt.mpr (by decide : (-1 : Int64) < (0 : Int64)))).2.1) ?_
          have hz93 : (1 : Int32) < z_q1 := own_in2 (k := (0 : Int32)) hz4 (by decide) hc85 hc92
          refine own_aloadN X88 hx (hb hby d3_68) (pc' := 69) rfl rfl rfl ?_
          refine own_getF X88 hx hZ hown (hw _ (List.mem_of_getElem? (i := 11) rfl)) Via.refl e88 F_bytes_q1 (hb hby d3_69) (pc' := 72) rfl (fun T94 X94 e94 => ?_)
          refine own_iload X94 hx (hb hby d3_72) (pc' := 74) rfl rfl ?_
          obtain ⟨cl95, Ar95, qa95, S95, M95, H95, G95⟩ := id A_w_bytes_q1
          have hin95 : ¬ ((1 : Int32) < 0 ∨ cl95.slots.size ≤ ((1 : Int32)).toNatClampNeg) := inb_of S95 ⟨by decide, hz93⟩
          refine own_st ?_ (fun t k => X94.baloadBytes hx (j := (1 : Int32)) (v := (.int w1_w_bytes_q1)) (by rw [e94]; exact Ar95.1) (State.isArrayOf_alike hZ.alike Ar95.2.1) Ar95.2.2 hin95 (Has.at H95 hin95 rfl) (g := (mkF m 74 #[.val (.ref q1), .val (.int q2), .val (.long q3), .second, .val (.int (0 : Int32)), .val (.long (((0 : Int64) + q3) + (1 : Int64))), .second, .val (.long (-1 : Int64)), .second, .val (.int (1 : Int32))] [(.int (1 : Int32)), (.ref w_bytes_q1)])) rfl rfl (hb hby d3_74) t k)
          show own_Fin _ _ _ _ T94 (mkF m 75 #[.val (.ref q1), .val (.int q2), .val (.long q3), .second, .val (.int (0 : Int32)), .val (.long (((0 : Int64) + q3) + (1 : Int64))), .second, .val (.long (-1 : Int64)), .second, .val (.int (1 : Int32))] [(.int w1_w_bytes_q1)])
          refine own_sipush X94 hx (hb hby d3_75) (pc' := 78) rfl (v := (255 : Int32)) rfl ?_
          refine own_iand X94 hx (hb hby d3_78) (pc' := 79) rfl ?_
          refine own_iloadN X94 hx (hb hby d3_79) (pc' := 80) rfl rfl ?_
          by_cases hc96 : (w1_w_bytes_q1 &&& (255 : Int32)) = q2
          · refine own_icmpNo X94 hx (hb hby d3_80) (pc' := 83) rfl (teq hc96).2 ?_
            refine own_iload X94 hx (hb hby d3_83) (pc' := 85) rfl rfl ?_
            refine own_iload X94 hx (hb hby d3_85) (pc' := 87) rfl rfl ?_
            refine own_isub X94 hx (hb hby d3_87) (pc' := 88) rfl ?_
            show own_Fin _ _ _ _ T94 (mkF m 88 #[.val (.ref q1), .val (.int q2), .val (.long q3), .second, .val (.int (0 : Int32)), .val (.long (((0 : Int64) + q3) + (1 : Int64))), .second, .val (.long (-1 : Int64)), .second, .val (.int (1 : Int32))] [(.int (1 : Int32))])
            refine own_i2l X94 hx (hb hby d3_88) (pc' := 89) rfl ?_
            show own_Fin _ _ _ _ T94 (mkF m 89 #[.val (.ref q1), .val (.int q2), .val (.long q3), .second, .val (.int (0 : Int32)), .val (.long (((0 : Int64) + q3) + (1 : Int64))), .second, .val (.long (-1 : Int64)), .second, .val (.int (1 : Int32))] [(.long (1 : Int64))])
            refine own_lstore X94 hx (hb hby d3_89) (pc' := 91) rfl (Ls' := #[.val (.ref q1), .val (.int q2), .val (.long q3), .second, .val (.int (0 : Int32)), .val (.long (((0 : Int64) + q3) + (1 : Int64))), .second, .val (.long (1 : Int64)), .second, .val (.int (1 : Int32))]) rfl ?_
            refine own_iinc X94 hx (hb hby d3_91) (pc' := 94) rfl (Ls' := #[.val (.ref q1), .val (.int q2), .val (.long q3), .second, .val (.int (0 : Int32)), .val (.long (((0 : Int64) + q3) + (1 : Int64))), .second, .val (.long (1 : Int64)), .second, .val (.int (2 : Int32))]) rfl rfl ?_
            refine own_goto X94 hx (hb hby d3_94) (pc' := 52) (by decide) (by decide) ?_
            refine own_iload X94 hx (hb hby d3_52) (pc' := 54) rfl rfl ?_
            refine own_i2l X94 hx (hb hby d3_54) (pc' := 55) rfl ?_
            show own_Fin _ _ _ _ T94 (mkF m 55 #[.val (.ref q1), .val (.int q2), .val (.long q3), .second, .val (.int (0 : Int32)), .val (.long (((0 : Int64) + q3) + (1 : Int64))), .second, .val (.long (1 : Int64)), .second, .val (.int (2 : Int32))] [(.long (2 : Int64))])
            refine own_lload X94 hx (hb hby d3_55) (pc' := 57) rfl rfl ?_
            refine own_lcmp X94 hx (hb hby d3_57) (pc' := 58) rfl ?_
            by_cases hc97 : (2 : Int64) < (((0 : Int64) + q3) + (1 : Int64))
            · refine own_ifNo X94 hx (hb hby d3_58) (pc' := 61) rfl ((if0 _ _).trans (tlt (own_lc_lt.mpr hc97)).2.1) ?_
              refine own_lload X94 hx (hb hby d3_61) (pc' := 63) rfl rfl ?_
              refine own_lconst X94 hx (hb hby d3_63) (pc' := 64) rfl (v := (0 : Int64)) rfl ?_
              refine own_lcmp X94 hx (hb hby d3_64) (pc' := 65) rfl ?_
              refine own_ifYes X94 hx (hb hby d3_65) ((if0 _ _).trans (flt (mt own_lc_lt.mp (by decide : ¬ ((1 : Int64) < (0 : Int64))))).2.1) (pc' := 97) (by decide) (by decide) ?_
              refine own_lload X94 hx (hb hby d3_97) (pc' := 99) rfl rfl ?_
              refine own_retJ X94 hx hret hlk (hb hby d3_99) (by decide) (by decide) ?_
              show own_P _ _ _ _ T94.heap _
              exact ⟨(congrArg some (congrArg Value.long (show (1 : Int64) = (own_f3s0 q2 q3 z_q1 w0_w_bytes_q1 w1_w_bytes_q1 w2_w_bytes_q1 w3_w_bytes_q1) from by rw [own_f3s0, if_pos hc85, if_pos hc86, if_neg hc90, if_pos hc92, if_pos hc96, if_pos hc97]))), N0, e94⟩
            · refine own_ifYes X94 hx (hb hby d3_58) ((if0 _ _).trans (flt (mt own_lc_lt.mp hc97)).2.1) (pc' := 97) (by decide) (by decide) ?_
              refine own_lload X94 hx (hb hby d3_97) (pc' := 99) rfl rfl ?_
              refine own_retJ X94 hx hret hlk (hb hby d3_99) (by decide) (by decide) ?_
              show own_P _ _ _ _ T94.heap _
              exact ⟨(congrArg some (congrArg Value.long (show (1 : Int64) = (own_f3s0 q2 q3 z_q1 w0_w_bytes_q1 w1_w_bytes_q1 w2_w_bytes_q1 w3_w_bytes_q1) from by rw [own_f3s0, if_pos hc85, if_pos hc86, if_neg hc90, if_pos hc92, if_pos hc96, if_neg hc97]))), N0, e94⟩
          · refine own_icmpYes X94 hx (hb hby d3_80) (feq hc96).2 (pc' := 91) (by decide) (by decide) ?_
            refine own_iinc X94 hx (hb hby d3_91) (pc' := 94) rfl (Ls' := #[.val (.ref q1), .val (.int q2), .val (.long q3), .second, .val (.int (0 : Int32)), .val (.long (((0 : Int64) + q3) + (1 : Int64))), .second, .val (.long (-1 : Int64)), .second, .val (.int (2 : Int32))]) rfl rfl ?_
            refine own_goto X94 hx (hb hby d3_94) (pc' := 52) (by decide) (by decide) ?_
            refine own_iload X94 hx (hb hby d3_52) (pc' := 54) rfl rfl ?_
            refine own_i2l X94 hx (hb hby d3_54) (pc' := 55) rfl ?_
            show own_Fin _ _ _ _ T94 (mkF m 55 #[.val (.ref q1), .val (.int q2), .val (.long q3), .second, .val (.int (0 : Int32)), .val (.long (((0 : Int64) + q3) + (1 : Int64))), .second, .val (.long (-1 : Int64)), .second, .val (.int (2 : Int32))] [(.long (2 : Int64))])
            refine own_lload X94 hx (hb hby d3_55) (pc' := 57) rfl rfl ?_
            refine own_lcmp X94 hx (hb hby d3_57) (pc' := 58) rfl ?_
            by_cases hc98 : (2 : Int64) < (((0 : Int64) + q3) + (1 : Int64))
            · refine own_ifNo X94 hx (hb hby d3_58) (pc' := 61) rfl ((if0 _ _).trans (tlt (own_lc_lt.mpr hc98)).2.1) ?_
              refine own_lload X94 hx (hb hby d3_61) (pc' := 63) rfl rfl ?_
              refine own_lconst X94 hx (hb hby d3_63) (pc' := 64) rfl (v := (0 : Int64)) rfl ?_
              refine own_lcmp X94 hx (hb hby d3_64) (pc' := 65) rfl ?_
              refine own_ifNo X94 hx (hb hby d3_65) (pc' := 68) rfl ((if0 _ _).trans (tlt (own_lc_lt.mpr (by decide : (-1 : Int64) < (0 : Int64)))).2.1) ?_
              have hz99 : (2 : Int32) < z_q1 := own_in2 (k := (0 : Int32)) hz4 (by decide) hc85 hc98
              refine own_aloadN X94 hx (hb hby d3_68) (pc' := 69) rfl rfl rfl ?_
              refine own_getF X94 hx hZ hown (hw _ (List.mem_of_getElem? (i := 11) rfl)) Via.refl e94 F_bytes_q1 (hb hby d3_69) (pc' := 72) rfl (fun T100 X100 e100 => ?_)
              refine own_iload X100 hx (hb hby d3_72) (pc' := 74) rfl rfl ?_
              obtain ⟨cl101, Ar101, qa101, S101, M101, H101, G101⟩ := id A_w_bytes_q1
              have hin101 : ¬ ((2 : Int32) < 0 ∨ cl101.slots.size ≤ ((2 : Int32)).toNatClampNeg) := inb_of S101 ⟨by decide, hz99⟩
              refine own_st ?_ (fun t k => X100.baloadBytes hx (j := (2 : Int32)) (v := (.int w2_w_bytes_q1)) (by rw [e100]; exact Ar101.1) (State.isArrayOf_alike hZ.alike Ar101.2.1) Ar101.2.2 hin101 (Has.at H101 hin101 rfl) (g := (mkF m 74 #[.val (.ref q1), .val (.int q2), .val (.long q3), .second, .val (.int (0 : Int32)), .val (.long (((0 : Int64) + q3) + (1 : Int64))), .second, .val (.long (-1 : Int64)), .second, .val (.int (2 : Int32))] [(.int (2 : Int32)), (.ref w_bytes_q1)])) rfl rfl (hb hby d3_74) t k)
              show own_Fin _ _ _ _ T100 (mkF m 75 #[.val (.ref q1), .val (.int q2), .val (.long q3), .second, .val (.int (0 : Int32)), .val (.long (((0 : Int64) + q3) + (1 : Int64))), .second, .val (.long (-1 : Int64)), .second, .val (.int (2 : Int32))] [(.int w2_w_bytes_q1)])
              refine own_sipush X100 hx (hb hby d3_75) (pc' := 78) rfl (v := (255 : Int32)) rfl ?_
              refine own_iand X100 hx (hb hby d3_78) (pc' := 79) rfl ?_
              refine own_iloadN X100 hx (hb hby d3_79) (pc' := 80) rfl rfl ?_
              by_cases hc102 : (w2_w_bytes_q1 &&& (255 : Int32)) = q2
              · refine own_icmpNo X100 hx (hb hby d3_80) (pc' := 83) rfl (teq hc102).2 ?_
                refine own_iload X100 hx (hb hby d3_83) (pc' := 85) rfl rfl ?_
                refine own_iload X100 hx (hb hby d3_85) (pc' := 87) rfl rfl ?_
                refine own_isub X100 hx (hb hby d3_87) (pc' := 88) rfl ?_
                show own_Fin _ _ _ _ T100 (mkF m 88 #[.val (.ref q1), .val (.int q2), .val (.long q3), .second, .val (.int (0 : Int32)), .val (.long (((0 : Int64) + q3) + (1 : Int64))), .second, .val (.long (-1 : Int64)), .second, .val (.int (2 : Int32))] [(.int (2 : Int32))])
                refine own_i2l X100 hx (hb hby d3_88) (pc' := 89) rfl ?_
                show own_Fin _ _ _ _ T100 (mkF m 89 #[.val (.ref q1), .val (.int q2), .val (.long q3), .second, .val (.int (0 : Int32)), .val (.long (((0 : Int64) + q3) + (1 : Int64))), .second, .val (.long (-1 : Int64)), .second, .val (.int (2 : Int32))] [(.long (2 : Int64))])
                refine own_lstore X100 hx (hb hby d3_89) (pc' := 91) rfl (Ls' := #[.val (.ref q1), .val (.int q2), .val (.long q3), .second, .val (.int (0 : Int32)), .val (.long (((0 : Int64) + q3) + (1 : Int64))), .second, .val (.long (2 : Int64)), .second, .val (.int (2 : Int32))]) rfl ?_
                refine own_iinc X100 hx (hb hby d3_91) (pc' := 94) rfl (Ls' := #[.val (.ref q1), .val (.int q2), .val (.long q3), .second, .val (.int (0 : Int32)), .val (.long (((0 : Int64) + q3) + (1 : Int64))), .second, .val (.long (2 : Int64)), .second, .val (.int (3 : Int32))]) rfl rfl ?_
                refine own_goto X100 hx (hb hby d3_94) (pc' := 52) (by decide) (by decide) ?_
                refine own_iload X100 hx (hb hby d3_52) (pc' := 54) rfl rfl ?_
                refine own_i2l X100 hx (hb hby d3_54) (pc' := 55) rfl ?_
                show own_Fin _ _ _ _ T100 (mkF m 55 #[.val (.ref q1), .val (.int q2), .val (.long q3), .second, .val (.int (0 : Int32)), .val (.long (((0 : Int64) + q3) + (1 : Int64))), .second, .val (.long (2 : Int64)), .second, .val (.int (3 : Int32))] [(.long (3 : Int64))])
                refine own_lload X100 hx (hb hby d3_55) (pc' := 57) rfl rfl ?_
                refine own_lcmp X100 hx (hb hby d3_57) (pc' := 58) rfl ?_
                by_cases hc103 : (3 : Int64) < (((0 : Int64) + q3) + (1 : Int64))
                · refine own_ifNo X100 hx (hb hby d3_58) (pc' := 61) rfl ((if0 _ _).trans (tlt (own_lc_lt.mpr hc103)).2.1) ?_
                  refine own_lload X100 hx (hb hby d3_61) (pc' := 63) rfl rfl ?_
                  refine own_lconst X100 hx (hb hby d3_63) (pc' := 64) rfl (v := (0 : Int64)) rfl ?_
                  refine own_lcmp X100 hx (hb hby d3_64) (pc' := 65) rfl ?_
                  refine own_ifYes X100 hx (hb hby d3_65) ((if0 _ _).trans (flt (mt own_lc_lt.mp (by decide : ¬ ((2 : Int64) < (0 : Int64))))).2.1) (pc' := 97) (by decide) (by decide) ?_
                  refine own_lload X100 hx (hb hby d3_97) (pc' := 99) rfl rfl ?_
                  refine own_retJ X100 hx hret hlk (hb hby d3_99) (by decide) (by decide) ?_
                  show own_P _ _ _ _ T100.heap _
                  exact ⟨(congrArg some (congrArg Value.long (show (2 : Int64) = (own_f3s0 q2 q3 z_q1 w0_w_bytes_q1 w1_w_bytes_q1 w2_w_bytes_q1 w3_w_bytes_q1) from by rw [own_f3s0, if_pos hc85, if_pos hc86, if_neg hc90, if_pos hc92, if_neg hc96, if_pos hc98, if_pos hc102, if_pos hc103]))), N0, e100⟩
                · refine own_ifYes X100 hx (hb hby d3_58) ((if0 _ _).trans (flt (mt own_lc_lt.mp hc103)).2.1) (pc' := 97) (by decide) (by decide) ?_
                  refine own_lload X100 hx (hb hby d3_97) (pc' := 99) rfl rfl ?_
                  refine own_retJ X100 hx hret hlk (hb hby d3_99) (by decide) (by decide) ?_
                  show own_P _ _ _ _ T100.heap _
                  exact ⟨(congrArg some (congrArg Value.long (show (2 : Int64) = (own_f3s0 q2 q3 z_q1 w0_w_bytes_q1 w1_w_bytes_q1 w2_w_bytes_q1 w3_w_bytes_q1) from by rw [own_f3s0, if_pos hc85, if_pos hc86, if_neg hc90, if_pos hc92, if_neg hc96, if_pos hc98, if_pos hc102, if_neg hc103]))), N0, e100⟩
              · refine own_icmpYes X100 hx (hb hby d3_80) (feq hc102).2 (pc' := 91) (by decide) (by decide) ?_
                refine own_iinc X100 hx (hb hby d3_91) (pc' := 94) rfl (Ls' := #[.val (.ref q1), .val (.int q2), .val (.long q3), .second, .val (.int (0 : Int32)), .val (.long (((0 : Int64) + q3) + (1 : Int64))), .second, .val (.long (-1 : Int64)), .second, .val (.int (3 : Int32))]) rfl rfl ?_
                refine own_goto X100 hx (hb hby d3_94) (pc' := 52) (by decide) (by decide) ?_
                refine own_iload X100 hx (hb hby d3_52) (pc' := 54) rfl rfl ?_
                refine own_i2l X100 hx (hb hby d3_54) (pc' := 55) rfl ?_
                show own_Fin _ _ _ _ T100 (mkF m 55 #[.val (.ref q1), .val (.int q2), .val (.long q3), .second, .val (.int (0 : Int32)), .val (.long (((0 : Int64) + q3) + (1 : Int64))), .second, .val (.long (-1 : Int64)), .second, .val (.int (3 : Int32))] [(.long (3 : Int64))])
                refine own_lload X100 hx (hb hby d3_55) (pc' := 57) rfl rfl ?_
                refine own_lcmp X100 hx (hb hby d3_57) (pc' := 58) rfl ?_
                by_cases hc104 : (3 : Int64) < (((0 : Int64) + q3) + (1 : Int64))
                · refine own_ifNo X100 hx (hb hby d3_58) (pc' := 61) rfl ((if0 _ _).trans (tlt (own_lc_lt.mpr hc104)).2.1) ?_
                  refine own_lload X100 hx (hb hby d3_61) (pc' := 63) rfl rfl ?_
                  refine own_lconst X100 hx (hb hby d3_63) (pc' := 64) rfl (v := (0 : Int64)) rfl ?_
                  refine own_lcmp X100 hx (hb hby d3_64) (pc' := 65) rfl ?_
                  refine own_ifNo X100 hx (hb hby d3_65) (pc' := 68) rfl ((if0 _ _).trans (tlt (own_lc_lt.mpr (by decide : (-1 : Int64) < (0 : Int64)))).2.1) ?_
                  have hz105 : (3 : Int32) < z_q1 := own_in2 (k := (0 : Int32)) hz4 (by decide) hc85 hc104
                  refine own_aloadN X100 hx (hb hby d3_68) (pc' := 69) rfl rfl rfl ?_
                  refine own_getF X100 hx hZ hown (hw _ (List.mem_of_getElem? (i := 11) rfl)) Via.refl e100 F_bytes_q1 (hb hby d3_69) (pc' := 72) rfl (fun T106 X106 e106 => ?_)
                  refine own_iload X106 hx (hb hby d3_72) (pc' := 74) rfl rfl ?_
                  obtain ⟨cl107, Ar107, qa107, S107, M107, H107, G107⟩ := id A_w_bytes_q1
                  have hin107 : ¬ ((3 : Int32) < 0 ∨ cl107.slots.size ≤ ((3 : Int32)).toNatClampNeg) := inb_of S107 ⟨by decide, hz105⟩
                  refine own_st ?_ (fun t k => X106.baloadBytes hx (j := (3 : Int32)) (v := (.int w3_w_bytes_q1)) (by rw [e106]; exact Ar107.1) (State.isArrayOf_alike hZ.alike Ar107.2.1) Ar107.2.2 hin107 (Has.at H107 hin107 rfl) (g := (mkF m 74 #[.val (.ref q1), .val (.int q2), .val (.long q3), .second, .val (.int (0 : Int32)), .val (.long (((0 : Int64) + q3) + (1 : Int64))), .second, .val (.long (-1 : Int64)), .second, .val (.int (3 : Int32))] [(.int (3 : Int32)), (.ref w_bytes_q1)])) rfl rfl (hb hby d3_74) t k)
                  show own_Fin _ _ _ _ T106 (mkF m 75 #[.val (.ref q1), .val (.int q2), .val (.long q3), .second, .val (.int (0 : Int32)), .val (.long (((0 : Int64) + q3) + (1 : Int64))), .second, .val (.long (-1 : Int64)), .second, .val (.int (3 : Int32))] [(.int w3_w_bytes_q1)])
                  refine own_sipush X106 hx (hb hby d3_75) (pc' := 78) rfl (v := (255 : Int32)) rfl ?_
                  refine own_iand X106 hx (hb hby d3_78) (pc' := 79) rfl ?_
                  refine own_iloadN X106 hx (hb hby d3_79) (pc' := 80) rfl rfl ?_
                  by_cases hc108 : (w3_w_bytes_q1 &&& (255 : Int32)) = q2
                  · refine own_icmpNo X106 hx (hb hby d3_80) (pc' := 83) rfl (teq hc108).2 ?_
                    refine own_iload X106 hx (hb hby d3_83) (pc' := 85) rfl rfl ?_
                    refine own_iload X106 hx (hb hby d3_85) (pc' := 87) rfl rfl ?_
                    refine own_isub X106 hx (hb hby d3_87) (pc' := 88) rfl ?_
                    show own_Fin _ _ _ _ T106 (mkF m 88 #[.val (.ref q1), .val (.int q2), .val (.long q3), .second, .val (.int (0 : Int32)), .val (.long (((0 : Int64) + q3) + (1 : Int64))), .second, .val (.long (-1 : Int64)), .second, .val (.int (3 : Int32))] [(.int (3 : Int32))])
                    refine own_i2l X106 hx (hb hby d3_88) (pc' := 89) rfl ?_
                    show own_Fin _ _ _ _ T106 (mkF m 89 #[.val (.ref q1), .val (.int q2), .val (.long q3), .second, .val (.int (0 : Int32)), .val (.long (((0 : Int64) + q3) + (1 : Int64))), .second, .val (.long (-1 : Int64)), .second, .val (.int (3 : Int32))] [(.long (3 : Int64))])
                    refine own_lstore X106 hx (hb hby d3_89) (pc' := 91) rfl (Ls' := #[.val (.ref q1), .val (.int q2), .val (.long q3), .second, .val (.int (0 : Int32)), .val (.long (((0 : Int64) + q3) + (1 : Int64))), .second, .val (.long (3 : Int64)), .second, .val (.int (3 : Int32))]) rfl ?_
                    refine own_iinc X106 hx (hb hby d3_91) (pc' := 94) rfl (Ls' := #[.val (.ref q1), .val (.int q2), .val (.long q3), .second, .val (.int (0 : Int32)), .val (.long (((0 : Int64) + q3) + (1 : Int64))), .second, .val (.long (3 : Int64)), .second, .val (.int (4 : Int32))]) rfl rfl ?_
                    refine own_goto X106 hx (hb hby d3_94) (pc' := 52) (by decide) (by decide) ?_
                    refine own_iload X106 hx (hb hby d3_52) (pc' := 54) rfl rfl ?_
                    refine own_i2l X106 hx (hb hby d3_54) (pc' := 55) rfl ?_
                    show own_Fin _ _ _ _ T106 (mkF m 55 #[.val (.ref q1), .val (.int q2), .val (.long q3), .second, .val (.int (0 : Int32)), .val (.long (((0 : Int64) + q3) + (1 : Int64))), .second, .val (.long (3 : Int64)), .second, .val (.int (4 : Int32))] [(.long (4 : Int64))])
                    refine own_lload X106 hx (hb hby d3_55) (pc' := 57) rfl rfl ?_
                    refine own_lcmp X106 hx (hb hby d3_57) (pc' := 58) rfl ?_
                    refine own_ifYes X106 hx (hb hby d3_58) ((if0 _ _).trans (flt (mt own_lc_lt.mp hE)).2.1) (pc' := 97) (by decide) (by decide) ?_
                    refine own_lload X106 hx (hb hby d3_97) (pc' := 99) rfl rfl ?_
                    refine own_retJ X106 hx hret hlk (hb hby d3_99) (by decide) (by decide) ?_
                    show own_P _ _ _ _ T106.heap _
                    exact ⟨(congrArg some (congrArg Value.long (show (3 : Int64) = (own_f3s0 q2 q3 z_q1 w0_w_bytes_q1 w1_w_bytes_q1 w2_w_bytes_q1 w3_w_bytes_q1) from by rw [own_f3s0, if_pos hc85, if_pos hc86, if_neg hc90, if_pos hc92, if_neg hc96, if_pos hc98, if_neg hc102, if_pos hc104, if_pos hc108]))), N0, e106⟩
                  · refine own_icmpYes X106 hx (hb hby d3_80) (feq hc108).2 (pc' := 91) (by decide) (by decide) ?_
                    refine own_iinc X106 hx (hb hby d3_91) (pc' := 94) rfl (Ls' := #[.val (.ref q1), .val (.int q2), .val (.long q3), .second, .val (.int (0 : Int32)), .val (.long (((0 : Int64) + q3) + (1 : Int64))), .second, .val (.long (-1 : Int64)), .second, .val (.int (4 : Int32))]) rfl rfl ?_
                    refine own_goto X106 hx (hb hby d3_94) (pc' := 52) (by decide) (by decide) ?_
                    refine own_iload X106 hx (hb hby d3_52) (pc' := 54) rfl rfl ?_
                    refine own_i2l X106 hx (hb hby d3_54) (pc' := 55) rfl ?_
                    show own_Fin _ _ _ _ T106 (mkF m 55 #[.val (.ref q1), .val (.int q2), .val (.long q3), .second, .val (.int (0 : Int32)), .val (.long (((0 : Int64) + q3) + (1 : Int64))), .second, .val (.long (-1 : Int64)), .second, .val (.int (4 : Int32))] [(.long (4 : Int64))])
                    refine own_lload X106 hx (hb hby d3_55) (pc' := 57) rfl rfl ?_
                    refine own_lcmp X106 hx (hb hby d3_57) (pc' := 58) rfl ?_
                    refine own_ifYes X106 hx (hb hby d3_58) ((if0 _ _).trans (flt (mt own_lc_lt.mp hE)).2.1) (pc' := 97) (by decide) (by decide) ?_
                    refine own_lload X106 hx (hb hby d3_97) (pc' := 99) rfl rfl ?_
                    refine own_retJ X106 hx hret hlk (hb hby d3_99) (by decide) (by decide) ?_
                    show own_P _ _ _ _ T106.heap _
                    exact ⟨(congrArg some (congrArg Value.long (show (-1 : Int64) = (own_f3s0 q2 q3 z_q1 w0_w_bytes_q1 w1_w_bytes_q1 w2_w_bytes_q1 w3_w_bytes_q1) from by rw [own_f3s0, if_pos hc85, if_pos hc86, if_neg hc90, if_pos hc92, if_neg hc96, if_pos hc98, if_neg hc102, if_pos hc104, if_neg hc108]))), N0, e106⟩
                · refine own_ifYes X100 hx (hb hby d3_58) ((if0 _ _).trans (flt (mt own_lc_lt.mp hc104)).2.1) (pc' := 97) (by decide) (by decide) ?_
                  refine own_lload X100 hx (hb hby d3_97) (pc' := 99) rfl rfl ?_
                  refine own_retJ X100 hx hret hlk (hb hby d3_99) (by decide) (by decide) ?_
                  show own_P _ _ _ _ T100.heap _
                  exact ⟨(congrArg some (congrArg Value.long (show (-1 : Int64) = (own_f3s0 q2 q3 z_q1 w0_w_bytes_q1 w1_w_bytes_q1 w2_w_bytes_q1 w3_w_bytes_q1) from by rw [own_f3s0, if_pos hc85, if_pos hc86, if_neg hc90, if_pos hc92, if_neg hc96, if_pos hc98, if_neg hc102, if_neg hc104]))), N0, e100⟩
            · refine own_ifYes X94 hx (hb hby d3_58) ((if0 _ _).trans (flt (mt own_lc_lt.mp hc98)).2.1) (pc' := 97) (by decide) (by decide) ?_
              refine own_lload X94 hx (hb hby d3_97) (pc' := 99) rfl rfl ?_
              refine own_retJ X94 hx hret hlk (hb hby d3_99) (by decide) (by decide) ?_
              show own_P _ _ _ _ T94.heap _
              exact ⟨(congrArg some (congrArg Value.long (show (-1 : Int64) = (own_f3s0 q2 q3 z_q1 w0_w_bytes_q1 w1_w_bytes_q1 w2_w_bytes_q1 w3_w_bytes_q1) from by rw [own_f3s0, if_pos hc85, if_pos hc86, if_neg hc90, if_pos hc92, if_neg hc96, if_neg hc98]))), N0, e94⟩
        · refine own_ifYes X88 hx (hb hby d3_58) ((if0 _ _).trans (flt (mt own_lc_lt.mp hc92)).2.1) (pc' := 97) (by decide) (by decide) ?_
          refine own_lload X88 hx (hb hby d3_97) (pc' := 99) rfl rfl ?_
          refine own_retJ X88 hx hret hlk (hb hby d3_99) (by decide) (by decide) ?_
          show own_P _ _ _ _ T88.heap _
          exact ⟨(congrArg some (congrArg Value.long (show (-1 : Int64) = (own_f3s0 q2 q3 z_q1 w0_w_bytes_q1 w1_w_bytes_q1 w2_w_bytes_q1 w3_w_bytes_q1) from by rw [own_f3s0, if_pos hc85, if_pos hc86, if_neg hc90, if_neg hc92]))), N0, e88⟩
    · refine own_ifYes X83 hx (hb hby d3_58) ((if0 _ _).trans (flt (mt own_lc_lt.mp hc86)).2.1) (pc' := 97) (by decide) (by decide) ?_
      refine own_lload X83 hx (hb hby d3_97) (pc' := 99) rfl rfl ?_
      refine own_retJ X83 hx hret hlk (hb hby d3_99) (by decide) (by decide) ?_
      show own_P _ _ _ _ T83.heap _
      exact ⟨(congrArg some (congrArg Value.long (show (-1 : Int64) = (own_f3s0 q2 q3 z_q1 w0_w_bytes_q1 w1_w_bytes_q1 w2_w_bytes_q1 w3_w_bytes_q1) from by rw [own_f3s0, if_pos hc85, if_neg hc86]))), N0, e83⟩
  · refine own_ifYes X83 hx (hb hby d3_22) ((if0 _ _).trans (flt (mt own_lc_lt.mp hc85)).2.1) (pc' := 35) (by decide) (by decide) ?_
    refine own_aloadN X83 hx (hb hby d3_35) (pc' := 36) rfl rfl rfl ?_
    refine own_getF X83 hx hZ hown (hw _ (List.mem_of_getElem? (i := 11) rfl)) Via.refl e83 F_bytes_q1 (hb hby d3_36) (pc' := 39) rfl (fun T109 X109 e109 => ?_)
    obtain ⟨cl110, Ar110, qa110, S110, M110, H110, G110⟩ := id A_w_bytes_q1
    refine own_st ?_ (fun t k => X109.arraylength hx (by rw [e109]; exact Ar110.1) (State.isArrayOf_alike hZ.alike Ar110.2.1) (g := (mkF m 39 #[.val (.ref q1), .val (.int q2), .val (.long q3), .second, .val (.int (0 : Int32)), .unset, .unset, .unset, .unset, .unset] [(.ref w_bytes_q1)])) rfl rfl (hb hby d3_39) t k)
    rw [len_of S110 M110]
    show own_Fin _ _ _ _ T109 (mkF m 40 #[.val (.ref q1), .val (.int q2), .val (.long q3), .second, .val (.int (0 : Int32)), .unset, .unset, .unset, .unset, .unset] [(.int z_q1)])
    refine own_i2l X109 hx (hb hby d3_40) (pc' := 41) rfl ?_
    refine own_lstore X109 hx (hb hby d3_41) (pc' := 43) rfl (Ls' := #[.val (.ref q1), .val (.int q2), .val (.long q3), .second, .val (.int (0 : Int32)), .val (.long (z_q1.toInt64)), .second, .unset, .unset, .unset]) rfl ?_
    have hE : ¬ ((4 : Int64) < (z_q1.toInt64)) := own_out1 hz4
    refine own_ldc2Long X109 hx hZ hown (hw _ (List.mem_of_getElem? (i := 21) rfl)) (hb hby d3_43) (pc' := 46) rfl ?_
    refine own_lstore X109 hx (hb hby d3_46) (pc' := 48) rfl (Ls' := #[.val (.ref q1), .val (.int q2), .val (.long q3), .second, .val (.int (0 : Int32)), .val (.long (z_q1.toInt64)), .second, .val (.long (-1 : Int64)), .second, .unset]) rfl ?_
    refine own_iload X109 hx (hb hby d3_48) (pc' := 50) rfl rfl ?_
    refine own_istore X109 hx (hb hby d3_50) (pc' := 52) rfl (Ls' := #[.val (.ref q1), .val (.int q2), .val (.long q3), .second, .val (.int (0 : Int32)), .val (.long (z_q1.toInt64)), .second, .val (.long (-1 : Int64)), .second, .val (.int (0 : Int32))]) rfl ?_
    refine own_iload X109 hx (hb hby d3_52) (pc' := 54) rfl rfl ?_
    refine own_i2l X109 hx (hb hby d3_54) (pc' := 55) rfl ?_
    show own_Fin _ _ _ _ T109 (mkF m 55 #[.val (.ref q1), .val (.int q2), .val (.long q3), .second, .val (.int (0 : Int32)), .val (.long (z_q1.toInt64)), .second, .val (.long (-1 : Int64)), .second, .val (.int (0 : Int32))] [(.long (0 : Int64))])
    refine own_lload X109 hx (hb hby d3_55) (pc' := 57) rfl rfl ?_
    refine own_lcmp X109 hx (hb hby d3_57) (pc' := 58) rfl ?_
    by_cases hc111 : (0 : Int64) < (z_q1.toInt64)
    · refine own_ifNo X109 hx (hb hby d3_58) (pc' := 61) rfl ((if0 _ _).trans (tlt (own_lc_lt.mpr hc111)).2.1) ?_
      refine own_lload X109 hx (hb hby d3_61) (pc' := 63) rfl rfl ?_
      refine own_lconst X109 hx (hb hby d3_63) (pc' := 64) rfl (v := (0 : Int64)) rfl ?_
      refine own_lcmp X109 hx (hb hby d3_64) (pc' := 65) rfl ?_
      refine own_ifNo X109 hx (hb hby d3_65) (pc' := 68) rfl ((if0 _ _).trans (tlt (own_lc_lt.mpr (by decide : (-1 : Int64) < (0 : Int64)))).2.1) ?_
      have hz112 : (0 : Int32) < z_q1 := own_in1 (by decide) hc111
      refine own_aloadN X109 hx (hb hby d3_68) (pc' := 69) rfl rfl rfl ?_
      refine own_getF X109 hx hZ hown (hw _ (List.mem_of_getElem? (i := 11) rfl)) Via.refl e109 F_bytes_q1 (hb hby d3_69) (pc' := 72) rfl (fun T113 X113 e113 => ?_)
      refine own_iload X113 hx (hb hby d3_72) (pc' := 74) rfl rfl ?_
      obtain ⟨cl114, Ar114, qa114, S114, M114, H114, G114⟩ := id A_w_bytes_q1
      have hin114 : ¬ ((0 : Int32) < 0 ∨ cl114.slots.size ≤ ((0 : Int32)).toNatClampNeg) := inb_of S114 ⟨by decide, hz112⟩
      refine own_st ?_ (fun t k => X113.baloadBytes hx (j := (0 : Int32)) (v := (.int w0_w_bytes_q1)) (by rw [e113]; exact Ar114.1) (State.isArrayOf_alike hZ.alike Ar114.2.1) Ar114.2.2 hin114 (Has.at H114 hin114 rfl) (g := (mkF m 74 #[.val (.ref q1), .val (.int q2), .val (.long q3), .second, .val (.int (0 : Int32)), .val (.long (z_q1.toInt64)), .second, .val (.long (-1 : Int64)), .second, .val (.int (0 : Int32))] [(.int (0 : Int32)), (.ref w_bytes_q1)])) rfl rfl (hb hby d3_74) t k)
      show own_Fin _ _ _ _ T113 (mkF m 75 #[.val (.ref q1), .val (.int q2), .val (.long q3), .second, .val (.int (0 : Int32)), .val (.long (z_q1.toInt64)), .second, .val (.long (-1 : Int64)), .second, .val (.int (0 : Int32))] [(.int w0_w_bytes_q1)])
      refine own_sipush X113 hx (hb hby d3_75) (pc' := 78) rfl (v := (255 : Int32)) rfl ?_
      refine own_iand X113 hx (hb hby d3_78) (pc' := 79) rfl ?_
      refine own_iloadN X113 hx (hb hby d3_79) (pc' := 80) rfl rfl ?_
      by_cases hc115 : (w0_w_bytes_q1 &&& (255 : Int32)) = q2
      · refine own_icmpNo X113 hx (hb hby d3_80) (pc' := 83) rfl (teq hc115).2 ?_
        refine own_iload X113 hx (hb hby d3_83) (pc' := 85) rfl rfl ?_
        refine own_iload X113 hx (hb hby d3_85) (pc' := 87) rfl rfl ?_
        refine own_isub X113 hx (hb hby d3_87) (pc' := 88) rfl ?_
        show own_Fin _ _ _ _ T113 (mkF m 88 #[.val (.ref q1), .val (.int q2), .val (.long q3), .second, .val (.int (0 : Int32)), .val (.long (z_q1.toInt64)), .second, .val (.long (-1 : Int64)), .second, .val (.int (0 : Int32))] [(.int (0 : Int32))])
        refine own_i2l X113 hx (hb hby d3_88) (pc' := 89) rfl ?_
        show own_Fin _ _ _ _ T113 (mkF m 89 #[.val (.ref q1), .val (.int q2), .val (.long q3), .second, .val (.int (0 : Int32)), .val (.long (z_q1.toInt64)), .second, .val (.long (-1 : Int64)), .second, .val (.int (0 : Int32))] [(.long (0 : Int64))])
        refine own_lstore X113 hx (hb hby d3_89) (pc' := 91) rfl (Ls' := #[.val (.ref q1), .val (.int q2), .val (.long q3), .second, .val (.int (0 : Int32)), .val (.long (z_q1.toInt64)), .second, .val (.long (0 : Int64)), .second, .val (.int (0 : Int32))]) rfl ?_
        refine own_iinc X113 hx (hb hby d3_91) (pc' := 94) rfl (Ls' := #[.val (.ref q1), .val (.int q2), .val (.long q3), .second, .val (.int (0 : Int32)), .val (.long (z_q1.toInt64)), .second, .val (.long (0 : Int64)), .second, .val (.int (1 : Int32))]) rfl rfl ?_
        refine own_goto X113 hx (hb hby d3_94) (pc' := 52) (by decide) (by decide) ?_
        refine own_iload X113 hx (hb hby d3_52) (pc' := 54) rfl rfl ?_
        refine own_i2l X113 hx (hb hby d3_54) (pc' := 55) rfl ?_
        show own_Fin _ _ _ _ T113 (mkF m 55 #[.val (.ref q1), .val (.int q2), .val (.long q3), .second, .val (.int (0 : Int32)), .val (.long (z_q1.toInt64)), .second, .val (.long (0 : Int64)), .second, .val (.int (1 : Int32))] [(.long (1 : Int64))])
        refine own_lload X113 hx (hb hby d3_55) (pc' := 57) rfl rfl ?_
        refine own_lcmp X113 hx (hb hby d3_57) (pc' := 58) rfl ?_
        by_cases hc116 : (1 : Int64) < (z_q1.toInt64)
        · refine own_ifNo X113 hx (hb hby d3_58) (pc' := 61) rfl ((if0 _ _).trans (tlt (own_lc_lt.mpr hc116)).2.1) ?_
          refine own_lload X113 hx (hb hby d3_61) (pc' := 63) rfl rfl ?_
          refine own_lconst X113 hx (hb hby d3_63) (pc' := 64) rfl (v := (0 : Int64)) rfl ?_
          refine own_lcmp X113 hx (hb hby d3_64) (pc' := 65) rfl ?_
          refine own_ifYes X113 hx (hb hby d3_65) ((if0 _ _).trans (flt (mt own_lc_lt.mp (by decide : ¬ ((0 : Int64) < (0 : Int64))))).2.1) (pc' := 97) (by decide) (by decide) ?_
          refine own_lload X113 hx (hb hby d3_97) (pc' := 99) rfl rfl ?_
          refine own_retJ X113 hx hret hlk (hb hby d3_99) (by decide) (by decide) ?_
          show own_P _ _ _ _ T113.heap _
          exact ⟨(congrArg some (congrArg Value.long (show (0 : Int64) = (own_f3s0 q2 q3 z_q1 w0_w_bytes_q1 w1_w_bytes_q1 w2_w_bytes_q1 w3_w_bytes_q1) from by rw [own_f3s0, if_neg hc85, if_pos hc111, if_pos hc115, if_pos hc116]))), N0, e113⟩
        · refine own_ifYes X113 hx (hb hby d3_58) ((if0 _ _).trans (flt (mt own_lc_lt.mp hc116)).2.1) (pc' := 97) (by decide) (by decide) ?_
          refine own_lload X113 hx (hb hby d3_97) (pc' := 99) rfl rfl ?_
          refine own_retJ X113 hx hret hlk (hb hby d3_99) (by decide) (by decide) ?_
          show own_P _ _ _ _ T113.heap _
          exact ⟨(congrArg some (congrArg Value.long (show (0 : Int64) = (own_f3s0 q2 q3 z_q1 w0_w_bytes_q1 w1_w_bytes_q1 w2_w_bytes_q1 w3_w_bytes_q1) from by rw [own_f3s0, if_neg hc85, if_pos hc111, if_pos hc115, if_neg hc116]))), N0, e113⟩
      · refine own_icmpYes X113 hx (hb hby d3_80) (feq hc115).2 (pc' := 91) (by decide) (by decide) ?_
        refine own_iinc X113 hx (hb hby d3_91) (pc' := 94) rfl (Ls' := #[.val (.ref q1), .val (.int q2), .val (.long q3), .second, .val (.int (0 : Int32)), .val (.long (z_q1.toInt64)), .second, .val (.long (-1 : Int64)), .second, .val (.int (1 : Int32))]) rfl rfl ?_
        refine own_goto X113 hx (hb hby d3_94) (pc' := 52) (by decide) (by decide) ?_
        refine own_iload X113 hx (hb hby d3_52) (pc' := 54) rfl rfl ?_
        refine own_i2l X113 hx (hb hby d3_54) (pc' := 55) rfl ?_
        show own_Fin _ _ _ _ T113 (mkF m 55 #[.val (.ref q1), .val (.int q2), .val (.long q3), .second, .val (.int (0 : Int32)), .val (.long (z_q1.toInt64)), .second, .val (.long (-1 : Int64)), .second, .val (.int (1 : Int32))] [(.long (1 : Int64))])
        refine own_lload X113 hx (hb hby d3_55) (pc' := 57) rfl rfl ?_
        refine own_lcmp X113 hx (hb hby d3_57) (pc' := 58) rfl ?_
        by_cases hc117 : (1 : Int64) < (z_q1.toInt64)
        · refine own_ifNo X113 hx (hb hby d3_58) (pc' := 61) rfl ((if0 _ _).trans (tlt (own_lc_lt.mpr hc117)).2.1) ?_
          refine own_lload X113 hx (hb hby d3_61) (pc' := 63) rfl rfl ?_
          refine own_lconst X113 hx (hb hby d3_63) (pc' := 64) rfl (v := (0 : Int64)) rfl ?_
          refine own_lcmp X113 hx (hb hby d3_64) (pc' := 65) rfl ?_
          refine own_ifNo X113 hx (hb hby d3_65) (pc' := 68) rfl ((if0 _ _).trans (tlt (own_lc_lt.mpr (by decide : (-1 : Int64) < (0 : Int64)))).2.1) ?_
          have hz118 : (1 : Int32) < z_q1 := own_in1 (by decide) hc117
          refine own_aloadN X113 hx (hb hby d3_68) (pc' := 69) rfl rfl rfl ?_
          refine own_getF X113 hx hZ hown (hw _ (List.mem_of_getElem? (i := 11) rfl)) Via.refl e113 F_bytes_q1 (hb hby d3_69) (pc' := 72) rfl (fun T119 X119 e119 => ?_)
          refine own_iload X119 hx (hb hby d3_72) (pc' := 74) rfl rfl ?_
          obtain ⟨cl120, Ar120, qa120, S120, M120, H120, G120⟩ := id A_w_bytes_q1
          have hin120 : ¬ ((1 : Int32) < 0 ∨ cl120.slots.size ≤ ((1 : Int32)).toNatClampNeg) := inb_of S120 ⟨by decide, hz118⟩
          refine own_st ?_ (fun t k => X119.baloadBytes hx (j := (1 : Int32)) (v := (.int w1_w_bytes_q1)) (by rw [e119]; exact Ar120.1) (State.isArrayOf_alike hZ.alike Ar120.2.1) Ar120.2.2 hin120 (Has.at H120 hin120 rfl) (g := (mkF m 74 #[.val (.ref q1), .val (.int q2), .val (.long q3), .second, .val (.int (0 : Int32)), .val (.long (z_q1.toInt64)), .second, .val (.long (-1 : Int64)), .second, .val (.int (1 : Int32))] [(.int (1 : Int32)), (.ref w_bytes_q1)])) rfl rfl (hb hby d3_74) t k)
          show own_Fin _ _ _ _ T119 (mkF m 75 #[.val (.ref q1), .val (.int q2), .val (.long q3), .second, .val (.int (0 : Int32)), .val (.long (z_q1.toInt64)), .second, .val (.long (-1 : Int64)), .second, .val (.int (1 : Int32))] [(.int w1_w_bytes_q1)])
          refine own_sipush X119 hx (hb hby d3_75) (pc' := 78) rfl (v := (255 : Int32)) rfl ?_
          refine own_iand X119 hx (hb hby d3_78) (pc' := 79) rfl ?_
          refine own_iloadN X119 hx (hb hby d3_79) (pc' := 80) rfl rfl ?_
          by_cases hc121 : (w1_w_bytes_q1 &&& (255 : Int32)) = q2
          · refine own_icmpNo X119 hx (hb hby d3_80) (pc' := 83) rfl (teq hc121).2 ?_
            refine own_iload X119 hx (hb hby d3_83) (pc' := 85) rfl rfl ?_
            refine own_iload X119 hx (hb hby d3_85) (pc' := 87) rfl rfl ?_
            refine own_isub X119 hx (hb hby d3_87) (pc' := 88) rfl ?_
            show own_Fin _ _ _ _ T119 (mkF m 88 #[.val (.ref q1), .val (.int q2), .val (.long q3), .second, .val (.int (0 : Int32)), .val (.long (z_q1.toInt64)), .second, .val (.long (-1 : Int64)), .second, .val (.int (1 : Int32))] [(.int (1 : Int32))])
            refine own_i2l X119 hx (hb hby d3_88) (pc' := 89) rfl ?_
            show own_Fin _ _ _ _ T119 (mkF m 89 #[.val (.ref q1), .val (.int q2), .val (.long q3), .second, .val (.int (0 : Int32)), .val (.long (z_q1.toInt64)), .second, .val (.long (-1 : Int64)), .second, .val (.int (1 : Int32))] [(.long (1 : Int64))])
            refine own_lstore X119 hx (hb hby d3_89) (pc' := 91) rfl (Ls' := #[.val (.ref q1), .val (.int q2), .val (.long q3), .second, .val (.int (0 : Int32)), .val (.long (z_q1.toInt64)), .second, .val (.long (1 : Int64)), .second, .val (.int (1 : Int32))]) rfl ?_
            refine own_iinc X119 hx (hb hby d3_91) (pc' := 94) rfl (Ls' := #[.val (.ref q1), .val (.int q2), .val (.long q3), .second, .val (.int (0 : Int32)), .val (.long (z_q1.toInt64)), .second, .val (.long (1 : Int64)), .second, .val (.int (2 : Int32))]) rfl rfl ?_
            refine own_goto X119 hx (hb hby d3_94) (pc' := 52) (by decide) (by decide) ?_
            refine own_iload X119 hx (hb hby d3_52) (pc' := 54) rfl rfl ?_
            refine own_i2l X119 hx (hb hby d3_54) (pc' := 55) rfl ?_
            show own_Fin _ _ _ _ T119 (mkF m 55 #[.val (.ref q1), .val (.int q2), .val (.long q3), .second, .val (.int (0 : Int32)), .val (.long (z_q1.toInt64)), .second, .val (.long (1 : Int64)), .second, .val (.int (2 : Int32))] [(.long (2 : Int64))])
            refine own_lload X119 hx (hb hby d3_55) (pc' := 57) rfl rfl ?_
            refine own_lcmp X119 hx (hb hby d3_57) (pc' := 58) rfl ?_
            by_cases hc122 : (2 : Int64) < (z_q1.toInt64)
            · refine own_ifNo X119 hx (hb hby d3_58) (pc' := 61) rfl ((if0 _ _).trans (tlt (own_lc_lt.mpr hc122)).2.1) ?_
              refine own_lload X119 hx (hb hby d3_61) (pc' := 63) rfl rfl ?_
              refine own_lconst X119 hx (hb hby d3_63) (pc' := 64) rfl (v := (0 : Int64)) rfl ?_
              refine own_lcmp X119 hx (hb hby d3_64) (pc' := 65) rfl ?_
              refine own_ifYes X119 hx (hb hby d3_65) ((if0 _ _).trans (flt (mt own_lc_lt.mp (by decide : ¬ ((1 : Int64) < (0 : Int64))))).2.1) (pc' := 97) (by decide) (by decide) ?_
              refine own_lload X119 hx (hb hby d3_97) (pc' := 99) rfl rfl ?_
              refine own_retJ X119 hx hret hlk (hb hby d3_99) (by decide) (by decide) ?_
              show own_P _ _ _ _ T119.heap _
              exact ⟨(congrArg some (congrArg Value.long (show (1 : Int64) = (own_f3s0 q2 q3 z_q1 w0_w_bytes_q1 w1_w_bytes_q1 w2_w_bytes_q1 w3_w_bytes_q1) from by rw [own_f3s0, if_neg hc85, if_pos hc111, if_neg hc115, if_pos hc117, if_pos hc121, if_pos hc122]))), N0, e119⟩
            · refine own_ifYes X119 hx (hb hby d3_58) ((if0 _ _).trans (flt (mt own_lc_lt.mp hc122)).2.1) (pc' := 97) (by decide) (by decide) ?_
              refine own_lload X119 hx (hb hby d3_97) (pc' := 99) rfl rfl ?_
              refine own_retJ X119 hx hret hlk (hb hby d3_99) (by decide) (by decide) ?_
              show own_P _ _ _ _ T119.heap _
              exact ⟨(congrArg some (congrArg Value.long (show (1 : Int64) = (own_f3s0 q2 q3 z_q1 w0_w_bytes_q1 w1_w_bytes_q1 w2_w_bytes_q1 w3_w_bytes_q1) from by rw [own_f3s0, if_neg hc85, if_pos hc111, if_neg hc115, if_pos hc117, if_pos hc121, if_neg hc122]))), N0, e119⟩
          · refine own_icmpYes X119 hx (hb hby d3_80) (feq hc121).2 (pc' := 91) (by decide) (by decide) ?_
            refine own_iinc X119 hx (hb hby d3_91) (pc' := 94) rfl (Ls' := #[.val (.ref q1), .val (.int q2), .val (.long q3), .second, .val (.int (0 : Int32)), .val (.long (z_q1.toInt64)), .second, .val (.long (-1 : Int64)), .second, .val (.int (2 : Int32))]) rfl rfl ?_
            refine own_goto X119 hx (hb hby d3_94) (pc' := 52) (by decide) (by decide) ?_
            refine own_iload X119 hx (hb hby d3_52) (pc' := 54) rfl rfl ?_
            refine own_i2l X119 hx (hb hby d3_54) (pc' := 55) rfl ?_
            show own_Fin _ _ _ _ T119 (mkF m 55 #[.val (.ref q1), .val (.int q2), .val (.long q3), .second, .val (.int (0 : Int32)), .val (.long (z_q1.toInt64)), .second, .val (.long (-1 : Int64)), .second, .val (.int (2 : Int32))] [(.long (2 : Int64))])
            refine own_lload X119 hx (hb hby d3_55) (pc' := 57) rfl rfl ?_
            refine own_lcmp X119 hx (hb hby d3_57) (pc' := 58) rfl ?_
            by_cases hc123 : (2 : Int64) < (z_q1.toInt64)
            · refine own_ifNo X119 hx (hb hby d3_58) (pc' := 61) rfl ((if0 _ _).trans (tlt (own_lc_lt.mpr hc123)).2.1) ?_
              refine own_lload X119 hx (hb hby d3_61) (pc' := 63) rfl rfl ?_
              refine own_lconst X119 hx (hb hby d3_63) (pc' := 64) rfl (v := (0 : Int64)) rfl ?_
              refine own_lcmp X119 hx (hb hby d3_64) (pc' := 65) rfl ?_
              refine own_ifNo X119 hx (hb hby d3_65) (pc' := 68) rfl ((if0 _ _).trans (tlt (own_lc_lt.mpr (by decide : (-1 : Int64) < (0 : Int64)))).2.1) ?_
              have hz124 : (2 : Int32) < z_q1 := own_in1 (by decide) hc123
              refine own_aloadN X119 hx (hb hby d3_68) (pc' := 69) rfl rfl rfl ?_
              refine own_getF X119 hx hZ hown (hw _ (List.mem_of_getElem? (i := 11) rfl)) Via.refl e119 F_bytes_q1 (hb hby d3_69) (pc' := 72) rfl (fun T125 X125 e125 => ?_)
              refine own_iload X125 hx (hb hby d3_72) (pc' := 74) rfl rfl ?_
              obtain ⟨cl126, Ar126, qa126, S126, M126, H126, G126⟩ := id A_w_bytes_q1
              have hin126 : ¬ ((2 : Int32) < 0 ∨ cl126.slots.size ≤ ((2 : Int32)).toNatClampNeg) := inb_of S126 ⟨by decide, hz124⟩
              refine own_st ?_ (fun t k => X125.baloadBytes hx (j := (2 : Int32)) (v := (.int w2_w_bytes_q1)) (by rw [e125]; exact Ar126.1) (State.isArrayOf_alike hZ.alike Ar126.2.1) Ar126.2.2 hin126 (Has.at H126 hin126 rfl) (g := (mkF m 74 #[.val (.ref q1), .val (.int q2), .val (.long q3), .second, .val (.int (0 : Int32)), .val (.long (z_q1.toInt64)), .second, .val (.long (-1 : Int64)), .second, .val (.int (2 : Int32))] [(.int (2 : Int32)), (.ref w_bytes_q1)])) rfl rfl (hb hby d3_74) t k)
              show own_Fin _ _ _ _ T125 (mkF m 75 #[.val (.ref q1), .val (.int q2), .val (.long q3), .second, .val (.int (0 : Int32)), .val (.long (z_q1.toInt64)), .second, .val (.long (-1 : Int64)), .second, .val (.int (2 : Int32))] [(.int w2_w_bytes_q1)])
              refine own_sipush X125 hx (hb hby d3_75) (pc' := 78) rfl (v := (255 : Int32)) rfl ?_
              refine own_iand X125 hx (hb hby d3_78) (pc' := 79) rfl ?_
              refine own_iloadN X125 hx (hb hby d3_79) (pc' := 80) rfl rfl ?_
              by_cases hc127 : (w2_w_bytes_q1 &&& (255 : Int32)) = q2
              · refine own_icmpNo X125 hx (hb hby d3_80) (pc' := 83) rfl (teq hc127).2 ?_
                refine own_iload X125 hx (hb hby d3_83) (pc' := 85) rfl rfl ?_
                refine own_iload X125 hx (hb hby d3_85) (pc' := 87) rfl rfl ?_
                refine own_isub X125 hx (hb hby d3_87) (pc' := 88) rfl ?_
                show own_Fin _ _ _ _ T125 (mkF m 88 #[.val (.ref q1), .val (.int q2), .val (.long q3), .second, .val (.int (0 : Int32)), .val (.long (z_q1.toInt64)), .second, .val (.long (-1 : Int64)), .second, .val (.int (2 : Int32))] [(.int (2 : Int32))])
                refine own_i2l X125 hx (hb hby d3_88) (pc' := 89) rfl ?_
                show own_Fin _ _ _ _ T125 (mkF m 89 #[.val (.ref q1), .val (.int q2), .val (.long q3), .second, .val (.int (0 : Int32)), .val (.long (z_q1.toInt64)), .second, .val (.long (-1 : Int64)), .second, .val (.int (2 : Int32))] [(.long (2 : Int64))])
                refine own_lstore X125 hx (hb hby d3_89) (pc' := 91) rfl (Ls' := #[.val (.ref q1), .val (.int q2), .val (.long q3), .second, .val (.int (0 : Int32)), .val (.long (z_q1.toInt64)), .second, .val (.long (2 : Int64)), .second, .val (.int (2 : Int32))]) rfl ?_
                refine own_iinc X125 hx (hb hby d3_91) (pc' := 94) rfl (Ls' := #[.val (.ref q1), .val (.int q2), .val (.long q3), .second, .val (.int (0 : Int32)), .val (.long (z_q1.toInt64)), .second, .val (.long (2 : Int64)), .second, .val (.int (3 : Int32))]) rfl rfl ?_
                refine own_goto X125 hx (hb hby d3_94) (pc' := 52) (by decide) (by decide) ?_
                refine own_iload X125 hx (hb hby d3_52) (pc' := 54) rfl rfl ?_
                refine own_i2l X125 hx (hb hby d3_54) (pc' := 55) rfl ?_
                show own_Fin _ _ _ _ T125 (mkF m 55 #[.val (.ref q1), .val (.int q2), .val (.long q3), .second, .val (.int (0 : Int32)), .val (.long (z_q1.toInt64)), .second, .val (.long (2 : Int64)), .second, .val (.int (3 : Int32))] [(.long (3 : Int64))])
                refine own_lload X125 hx (hb hby d3_55) (pc' := 57) rfl rfl ?_
                refine own_lcmp X125 hx (hb hby d3_57) (pc' := 58) rfl ?_
                by_cases hc128 : (3 : Int64) < (z_q1.toInt64)
                · refine own_ifNo X125 hx (hb hby d3_58) (pc' := 61) rfl ((if0 _ _).trans (tlt (own_lc_lt.mpr hc128)).2.1) ?_
                  refine own_lload X125 hx (hb hby d3_61) (pc' := 63) rfl rfl ?_
                  refine own_lconst X125 hx (hb hby d3_63) (pc' := 64) rfl (v := (0 : Int64)) rfl ?_
                  refine own_lcmp X125 hx (hb hby d3_64) (pc' := 65) rfl ?_
                  refine own_ifYes X125 hx (hb hby d3_65) ((if0 _ _).trans (flt (mt own_lc_lt.mp (by decide : ¬ ((2 : Int64) < (0 : Int64))))).2.1) (pc' := 97) (by decide) (by decide) ?_
                  refine own_lload X125 hx (hb hby d3_97) (pc' := 99) rfl rfl ?_
                  refine own_retJ X125 hx hret hlk (hb hby d3_99) (by decide) (by decide) ?_
                  show own_P _ _ _ _ T125.heap _
                  exact ⟨(congrArg some (congrArg Value.long (show (2 : Int64) = (own_f3s0 q2 q3 z_q1 w0_w_bytes_q1 w1_w_bytes_q1 w2_w_bytes_q1 w3_w_bytes_q1) from by rw [own_f3s0, if_neg hc85, if_pos hc111, if_neg hc115, if_pos hc117, if_neg hc121, if_pos hc123, if_pos hc127, if_pos hc128]))), N0, e125⟩
                · refine own_ifYes X125 hx (hb hby d3_58) ((if0 _ _).trans (flt (mt own_lc_lt.mp hc128)).2.1) (pc' := 97) (by decide) (by decide) ?_
                  refine own_lload X125 hx (hb hby d3_97) (pc' := 99) rfl rfl ?_
                  refine own_retJ X125 hx hret hlk (hb hby d3_99) (by decide) (by decide) ?_
                  show own_P _ _ _ _ T125.heap _
                  exact ⟨(congrArg some (congrArg Value.long (show (2 : Int64) = (own_f3s0 q2 q3 z_q1 w0_w_bytes_q1 w1_w_bytes_q1 w2_w_bytes_q1 w3_w_bytes_q1) from by rw [own_f3s0, if_neg hc85, if_pos hc111, if_neg hc115, if_pos hc117, if_neg hc121, if_pos hc123, if_pos hc127, if_neg hc128]))), N0, e125⟩
              · refine own_icmpYes X125 hx (hb hby d3_80) (feq hc127).2 (pc' := 91) (by decide) (by decide) ?_
                refine own_iinc X125 hx (hb hby d3_91) (pc' := 94) rfl (Ls' := #[.val (.ref q1), .val (.int q2), .val (.long q3), .second, .val (.int (0 : Int32)), .val (.long (z_q1.toInt64)), .second, .val (.long (-1 : Int64)), .second, .val (.int (3 : Int32))]) rfl rfl ?_
                refine own_goto X125 hx (hb hby d3_94) (pc' := 52) (by decide) (by decide) ?_
                refine own_iload X125 hx (hb hby d3_52) (pc' := 54) rfl rfl ?_
                refine own_i2l X125 hx (hb hby d3_54) (pc' := 55) rfl ?_
                show own_Fin _ _ _ _ T125 (mkF m 55 #[.val (.ref q1), .val (.int q2), .val (.long q3), .second, .val (.int (0 : Int32)), .val (.long (z_q1.toInt64)), .second, .val (.long (-1 : Int64)), .second, .val (.int (3 : Int32))] [(.long (3 : Int64))])
                refine own_lload X125 hx (hb hby d3_55) (pc' := 57) rfl rfl ?_
                refine own_lcmp X125 hx (hb hby d3_57) (pc' := 58) rfl ?_
                by_cases hc129 : (3 : Int64) < (z_q1.toInt64)
                · refine own_ifNo X125 hx (hb hby d3_58) (pc' := 61) rfl ((if0 _ _).trans (tlt (own_lc_lt.mpr hc129)).2.1) ?_
                  refine own_lload X125 hx (hb hby d3_61) (pc' := 63) rfl rfl ?_
                  refine own_lconst X125 hx (hb hby d3_63) (pc' := 64) rfl (v := (0 : Int64)) rfl ?_
                  refine own_lcmp X125 hx (hb hby d3_64) (pc' := 65) rfl ?_
                  refine own_ifNo X125 hx (hb hby d3_65) (pc' := 68) rfl ((if0 _ _).trans (tlt (own_lc_lt.mpr (by decide : (-1 : Int64) < (0 : Int64)))).2.1) ?_
                  have hz130 : (3 : Int32) < z_q1 := own_in1 (by decide) hc129
                  refine own_aloadN X125 hx (hb hby d3_68) (pc' := 69) rfl rfl rfl ?_
                  refine own_getF X125 hx hZ hown (hw _ (List.mem_of_getElem? (i := 11) rfl)) Via.refl e125 F_bytes_q1 (hb hby d3_69) (pc' := 72) rfl (fun T131 X131 e131 => ?_)
                  refine own_iload X131 hx (hb hby d3_72) (pc' := 74) rfl rfl ?_
                  obtain ⟨cl132, Ar132, qa132, S132, M132, H132, G132⟩ := id A_w_bytes_q1
                  have hin132 : ¬ ((3 : Int32) < 0 ∨ cl132.slots.size ≤ ((3 : Int32)).toNatClampNeg) := inb_of S132 ⟨by decide, hz130⟩
                  refine own_st ?_ (fun t k => X131.baloadBytes hx (j := (3 : Int32)) (v := (.int w3_w_bytes_q1)) (by rw [e131]; exact Ar132.1) (State.isArrayOf_alike hZ.alike Ar132.2.1) Ar132.2.2 hin132 (Has.at H132 hin132 rfl) (g := (mkF m 74 #[.val (.ref q1), .val (.int q2), .val (.long q3), .second, .val (.int (0 : Int32)), .val (.long (z_q1.toInt64)), .second, .val (.long (-1 : Int64)), .second, .val (.int (3 : Int32))] [(.int (3 : Int32)), (.ref w_bytes_q1)])) rfl rfl (hb hby d3_74) t k)
                  show own_Fin _ _ _ _ T131 (mkF m 75 #[.val (.ref q1), .val (.int q2), .val (.long q3), .second, .val (.int (0 : Int32)), .val (.long (z_q1.toInt64)), .second, .val (.long (-1 : Int64)), .second, .val (.int (3 : Int32))] [(.int w3_w_bytes_q1)])
                  refine own_sipush X131 hx (hb hby d3_75) (pc' := 78) rfl (v := (255 : Int32)) rfl ?_
                  refine own_iand X131 hx (hb hby d3_78) (pc' := 79) rfl ?_
                  refine own_iloadN X131 hx (hb hby d3_79) (pc' := 80) rfl rfl ?_
                  by_cases hc133 : (w3_w_bytes_q1 &&& (255 : Int32)) = q2
                  · refine own_icmpNo X131 hx (hb hby d3_80) (pc' := 83) rfl (teq hc133).2 ?_
                    refine own_iload X131 hx (hb hby d3_83) (pc' := 85) rfl rfl ?_
                    refine own_iload X131 hx (hb hby d3_85) (pc' := 87) rfl rfl ?_
                    refine own_isub X131 hx (hb hby d3_87) (pc' := 88) rfl ?_
                    show own_Fin _ _ _ _ T131 (mkF m 88 #[.val (.ref q1), .val (.int q2), .val (.long q3), .second, .val (.int (0 : Int32)), .val (.long (z_q1.toInt64)), .second, .val (.long (-1 : Int64)), .second, .val (.int (3 : Int32))] [(.int (3 : Int32))])
                    refine own_i2l X131 hx (hb hby d3_88) (pc' := 89) rfl ?_
                    show own_Fin _ _ _ _ T131 (mkF m 89 #[.val (.ref q1), .val (.int q2), .val (.long q3), .second, .val (.int (0 : Int32)), .val (.long (z_q1.toInt64)), .second, .val (.long (-1 : Int64)), .second, .val (.int (3 : Int32))] [(.long (3 : Int64))])
                    refine own_lstore X131 hx (hb hby d3_89) (pc' := 91) rfl (Ls' := #[.val (.ref q1), .val (.int q2), .val (.long q3), .second, .val (.int (0 : Int32)), .val (.long (z_q1.toInt64)), .second, .val (.long (3 : Int64)), .second, .val (.int (3 : Int32))]) rfl ?_
                    refine own_iinc X131 hx (hb hby d3_91) (pc' := 94) rfl (Ls' := #[.val (.ref q1), .val (.int q2), .val (.long q3), .second, .val (.int (0 : Int32)), .val (.long (z_q1.toInt64)), .second, .val (.long (3 : Int64)), .second, .val (.int (4 : Int32))]) rfl rfl ?_
                    refine own_goto X131 hx (hb hby d3_94) (pc' := 52) (by decide) (by decide) ?_
                    refine own_iload X131 hx (hb hby d3_52) (pc' := 54) rfl rfl ?_
                    refine own_i2l X131 hx (hb hby d3_54) (pc' := 55) rfl ?_
                    show own_Fin _ _ _ _ T131 (mkF m 55 #[.val (.ref q1), .val (.int q2), .val (.long q3), .second, .val (.int (0 : Int32)), .val (.long (z_q1.toInt64)), .second, .val (.long (3 : Int64)), .second, .val (.int (4 : Int32))] [(.long (4 : Int64))])
                    refine own_lload X131 hx (hb hby d3_55) (pc' := 57) rfl rfl ?_
                    refine own_lcmp X131 hx (hb hby d3_57) (pc' := 58) rfl ?_
                    refine own_ifYes X131 hx (hb hby d3_58) ((if0 _ _).trans (flt (mt own_lc_lt.mp hE)).2.1) (pc' := 97) (by decide) (by decide) ?_
                    refine own_lload X131 hx (hb hby d3_97) (pc' := 99) rfl rfl ?_
                    refine own_retJ X131 hx hret hlk (hb hby d3_99) (by decide) (by decide) ?_
                    show own_P _ _ _ _ T131.heap _
                    exact ⟨(congrArg some (congrArg Value.long (show (3 : Int64) = (own_f3s0 q2 q3 z_q1 w0_w_bytes_q1 w1_w_bytes_q1 w2_w_bytes_q1 w3_w_bytes_q1) from by rw [own_f3s0, if_neg hc85, if_pos hc111, if_neg hc115, if_pos hc117, if_neg hc121, if_pos hc123, if_neg hc127, if_pos hc129, if_pos hc133]))), N0, e131⟩
                  · refine own_icmpYes X131 hx (hb hby d3_80) (feq hc133).2 (pc' := 91) (by decide) (by decide) ?_
                    refine own_iinc X131 hx (hb hby d3_91) (pc' := 94) rfl (Ls' := #[.val (.ref q1), .val (.int q2), .val (.long q3), .second, .val (.int (0 : Int32)), .val (.long (z_q1.toInt64)), .second, .val (.long (-1 : Int64)), .second, .val (.int (4 : Int32))]) rfl rfl ?_
                    refine own_goto X131 hx (hb hby d3_94) (pc' := 52) (by decide) (by decide) ?_
                    refine own_iload X131 hx (hb hby d3_52) (pc' := 54) rfl rfl ?_
                    refine own_i2l X131 hx (hb hby d3_54) (pc' := 55) rfl ?_
                    show own_Fin _ _ _ _ T131 (mkF m 55 #[.val (.ref q1), .val (.int q2), .val (.long q3), .second, .val (.int (0 : Int32)), .val (.long (z_q1.toInt64)), .second, .val (.long (-1 : Int64)), .second, .val (.int (4 : Int32))] [(.long (4 : Int64))])
                    refine own_lload X131 hx (hb hby d3_55) (pc' := 57) rfl rfl ?_
                    refine own_lcmp X131 hx (hb hby d3_57) (pc' := 58) rfl ?_
                    refine own_ifYes X131 hx (hb hby d3_58) ((if0 _ _).trans (flt (mt own_lc_lt.mp hE)).2.1) (pc' := 97) (by decide) (by decide) ?_
                    refine own_lload X131 hx (hb hby d3_97) (pc' := 99) rfl rfl ?_
                    refine own_retJ X131 hx hret hlk (hb hby d3_99) (by decide) (by decide) ?_
                    show own_P _ _ _ _ T131.heap _
                    exact ⟨(congrArg some (congrArg Value.long (show (-1 : Int64) = (own_f3s0 q2 q3 z_q1 w0_w_bytes_q1 w1_w_bytes_q1 w2_w_bytes_q1 w3_w_bytes_q1) from by rw [own_f3s0, if_neg hc85, if_pos hc111, if_neg hc115, if_pos hc117, if_neg hc121, if_pos hc123, if_neg hc127, if_pos hc129, if_neg hc133]))), N0, e131⟩
                · refine own_ifYes X125 hx (hb hby d3_58) ((if0 _ _).trans (flt (mt own_lc_lt.mp hc129)).2.1) (pc' := 97) (by decide) (by decide) ?_
                  refine own_lload X125 hx (hb hby d3_97) (pc' := 99) rfl rfl ?_
                  refine own_retJ X125 hx hret hlk (hb hby d3_99) (by decide) (by decide) ?_
                  show own_P _ _ _ _ T125.heap _
                  exact ⟨(congrArg some (congrArg Value.long (show (-1 : Int64) = (own_f3s0 q2 q3 z_q1 w0_w_bytes_q1 w1_w_bytes_q1 w2_w_bytes_q1 w3_w_bytes_q1) from by rw [own_f3s0, if_neg hc85, if_pos hc111, if_neg hc115, if_pos hc117, if_neg hc121, if_pos hc123, if_neg hc127, if_neg hc129]))), N0, e125⟩
            · refine own_ifYes X119 hx (hb hby d3_58) ((if0 _ _).trans (flt (mt own_lc_lt.mp hc123)).2.1) (pc' := 97) (by decide) (by decide) ?_
              refine own_lload X119 hx (hb hby d3_97) (pc' := 99) rfl rfl ?_
              refine own_retJ X119 hx hret hlk (hb hby d3_99) (by decide) (by decide) ?_
              show own_P _ _ _ _ T119.heap _
              exact ⟨(congrArg some (congrArg Value.long (show (-1 : Int64) = (own_f3s0 q2 q3 z_q1 w0_w_bytes_q1 w1_w_bytes_q1 w2_w_bytes_q1 w3_w_bytes_q1) from by rw [own_f3s0, if_neg hc85, if_pos hc111, if_neg hc115, if_pos hc117, if_neg hc121, if_neg hc123]))), N0, e119⟩
        · refine own_ifYes X113 hx (hb hby d3_58) ((if0 _ _).trans (flt (mt own_lc_lt.mp hc117)).2.1) (pc' := 97) (by decide) (by decide) ?_
          refine own_lload X113 hx (hb hby d3_97) (pc' := 99) rfl rfl ?_
          refine own_retJ X113 hx hret hlk (hb hby d3_99) (by decide) (by decide) ?_
          show own_P _ _ _ _ T113.heap _
          exact ⟨(congrArg some (congrArg Value.long (show (-1 : Int64) = (own_f3s0 q2 q3 z_q1 w0_w_bytes_q1 w1_w_bytes_q1 w2_w_bytes_q1 w3_w_bytes_q1) from by rw [own_f3s0, if_neg hc85, if_pos hc111, if_neg hc115, if_neg hc117]))), N0, e113⟩
    · refine own_ifYes X109 hx (hb hby d3_58) ((if0 _ _).trans (flt (mt own_lc_lt.mp hc111)).2.1) (pc' := 97) (by decide) (by decide) ?_
      refine own_lload X109 hx (hb hby d3_97) (pc' := 99) rfl rfl ?_
      refine own_retJ X109 hx hret hlk (hb hby d3_99) (by decide) (by decide) ?_
      show own_P _ _ _ _ T109.heap _
      exact ⟨(congrArg some (congrArg Value.long (show (-1 : Int64) = (own_f3s0 q2 q3 z_q1 w0_w_bytes_q1 w1_w_bytes_q1 w2_w_bytes_q1 w3_w_bytes_q1) from by rw [own_f3s0, if_neg hc85, if_neg hc111]))), N0, e109⟩
theorem ef_3s0 (m : MethodId) (q1 : Addr) (q2 : Int32) (q3 : Int64) : entryFrame m #[(.ref q1), (.int q2), (.long q3)] 10 = mkF m 0 #[.val (.ref q1), .val (.int q2), .val (.long q3), .second, .unset, .unset, .unset, .unset, .unset, .unset] [] := by first | (simp [entryFrame, mkF, argsToLocals, Value.category]; done) | rfl
set_option maxRecDepth 65536 in
set_option maxHeartbeats 40000000 in
theorem rm3s0 (l : Launch) (Z : State) (a0 : Array Value) (hw : ∀ d ∈ tables_1, d.before a0 Z = true) (ws : List Jvm.Cond) (q1 : Addr) (q2 : Int32) (q3 : Int64) (w_bytes_q1 : Addr) (z_q1 : Int32) (kc_w_bytes_q1 : ClassId) (w0_w_bytes_q1 : Int32) (w1_w_bytes_q1 : Int32) (w2_w_bytes_q1 : Int32) (w3_w_bytes_q1 : Int32) (h0 : Heap) (n0 : Nat) (Z0 : n0 ≤ h0.size) (E_q1 : Exa Z h0 q1 "com/example/typewire/typewire/packet/BitInput") (F_bytes_q1 : Fld Z h0 q1 "com/example/typewire/typewire/packet/BitInput" "bytes" "[B" (.ref w_bytes_q1)) (F_position_q1 : Fld Z h0 q1 "com/example/typewire/typewire/packet/BitInput" "position" "J" (.long (0 : Int64))) (A_w_bytes_q1 : Arv Z h0 w_bytes_q1 kc_w_bytes_q1 .byte z_q1 [(.int w0_w_bytes_q1), (.int w1_w_bytes_q1), (.int w2_w_bytes_q1), (.int w3_w_bytes_q1)] (.int (0 : Int32))) (hz4 : 0 ≤ z_q1.toInt ∧ z_q1.toInt ≤ 4) :
    MetFree l (⟨"com/example/typewire/typewire/packet/BitInput", "bytesBefore", "(IJ)J"⟩ : MethodName) (head1 (Jvm.Cond.code (⟨"com/example/typewire/typewire/packet/BitInput", "bytesBefore", "(IJ)J"⟩ : MethodName) prog_12_method_5_code 10 (some .long) :: ws) ({ frames := 0, cells := 0, slots := 0, locals := 0 } : Room)) (fun a U => a = #[(.ref q1), (.int q2), (.long q3)] ∧ Z.Warmed39 U.vm ∧ U.heap = h0) (fun _ _ _ _ _ => True) (fun _ U o U' => ∃ v L, o = .returned v ∧ (own_P h0 n0 (some (.long (own_f3s0 q2 q3 z_q1 w0_w_bytes_q1 w1_w_bytes_q1 w2_w_bytes_q1 w3_w_bytes_q1)))) v U'.heap L ∧ FrameEnd U o U' L ({ frames := 0, cells := 0, slots := 0, locals := 0 } : Room).cells ({ frames := 0, cells := 0, slots := 0, locals := 0 } : Room).slots) := by
  refine MetFree.of_bodySF (plainFor_of_name pn_3) hisR ?_
  intro p e s m args below meth c s₁ Bd hml0 hP hK
  obtain ⟨rfl, hZ, hh⟩ := hP
  have hown : s.vm.findClass "com/example/typewire/typewire/packet/BitInput" = some m.cls := findClass_of_methodNamed Bd.named
  have hnm := (name_of_methodNamed Bd.named Bd.method).1
  have X0 : Stand p l e ({ frames := 0, cells := 0, slots := 0, locals := 0 } : Room) s m #[(.ref q1), (.int q2), (.long q3)] below meth c s₁ [] 0 0 := Stand.of_body Bd
  have e0 : s₁.heap = h0 := by rw [← hh, Bd.state]; rfl
  have H := sg3s0_0 l hw Bd.exec hZ Bd.bytes hml0 hown hnm Bd.returns Bd.notSynchronized q1 q2 q3 w_bytes_q1 z_q1 kc_w_bytes_q1 w0_w_bytes_q1 w1_w_bytes_q1 w2_w_bytes_q1 w3_w_bytes_q1 Z0 X0 (Fr.nil n0) e0 E_q1 F_bytes_q1 F_position_q1 A_w_bytes_q1 hz4
  obtain ⟨t, h1, h2, o, h3, h4⟩ := H
  exact ⟨t, o, castTop (ef_3s0 m q1 q2 q3) h1, h2, h3, h4⟩
def own_f3s1 (q2 : Int32) (q3 : Int64) (z_q1 : Int32) (w0_w_bytes_q1 : Int32) (w1_w_bytes_q1 : Int32) (w2_w_bytes_q1 : Int32) (w3_w_bytes_q1 : Int32) : Int64 :=
  if q3 < ((z_q1 - (1 : Int32)).toInt64) then (if (1 : Int64) < (((1 : Int64) + q3) + (1 : Int64)) then (if (w1_w_bytes_q1 &&& (255 : Int32)) = q2 then (if (2 : Int64) < (((1 : Int64) + q3) + (1 : Int64)) then (0 : Int64) else
    (0 : Int64)) else
    if (2 : Int64) < (((1 : Int64) + q3) + (1 : Int64)) then (if (w2_w_bytes_q1 &&& (255 : Int32)) = q2 then (if (3 : Int64) < (((1 : Int64) + q3) + (1 : Int64)) then (1 : Int64) else
    (1 : Int64)) else
    if (3 : Int64) < (((1 : Int64) + q3) + (1 : Int64)) then (if (w3_w_bytes_q1 &&& (255 : Int32)) = q2 then (2 : Int64) else
    (-1 : Int64)) else
    (-1 : Int64)) else
    (-1 : Int64)) else
    (-1 : Int64)) else
  if (1 : Int64) < (z_q1.toInt64) then (if (w1_w_bytes_q1 &&& (255 : Int32)) = q2 then (if (2 : Int64) < (z_q1.toInt64) then (0 : Int64) else
    (0 : Int64)) else
    if (2 : Int64) < (z_q1.toInt64) then (if (w2_w_bytes_q1 &&& (255 : Int32)) = q2 then (if (3 : Int64) < (z_q1.toInt64) then (1 : Int64) else
    (1 : Int64)) else
    if (3 : Int64) < (z_q1.toInt64) then (if (w3_w_bytes_q1 &&& (255 : Int32)) = q2 then (2 : Int64) else
    (-1 : Int64)) else
    (-1 : Int64)) else
    (-1 : Int64)) else
  (-1 : Int64)
set_option maxRecDepth 65536 in
set_option maxHeartbeats 40000000 in
theorem sg3s1_0 {p : Program} (l : Launch) {e : Env} {s : State} {m : MethodId} {args : Array Value} {below : List Frame} {meth : Method} {c : Code} {Z : State} {a0 : Array Value} (hw : ∀ d ∈ tables_1, d.before a0 Z = true) (hx : p.tables.exec = Jvm.exec) (hZ : Z.Warmed39 s.vm) (hby : c.code = prog_12_method_5_code) (hml : c.maxLocals = 10) (hown : s.vm.findClass "com/example/typewire/typewire/packet/BitInput" = some m.cls) (hnm : meth.name = "bytesBefore") (hret : meth.sig.returnType = (some .long)) (hlk : meth.locks = false) (q1 : Addr) (q2 : Int32) (q3 : Int64) (w_bytes_q1 : Addr) (z_q1 : Int32) (kc_w_bytes_q1 : ClassId) (w0_w_bytes_q1 : Int32) (w1_w_bytes_q1 : Int32) (w2_w_bytes_q1 : Int32) (w3_w_bytes_q1 : Int32) {h0 : Heap} {n0 : Nat} (Z0 : n0 ≤ h0.size) {T0 : State} {L0 : List Loc} (X0 : Stand p l e ({ frames := 0, cells := 0, slots := 0, locals := 0 } : Room) s m args below meth c T0 L0 0 0) (N0 : Fr n0 L0) (e0 : T0.heap = h0) (E_q1 : Exa Z h0 q1 "com/example/typewire/typewire/packet/BitInput") (F_bytes_q1 : Fld Z h0 q1 "com/example/typewire/typewire/packet/BitInput" "bytes" "[B" (.ref w_bytes_q1)) (F_position_q1 : Fld Z h0 q1 "com/example/typewire/typewire/packet/BitInput" "position" "J" (.long (8 : Int64))) (A_w_bytes_q1 : Arv Z h0 w_bytes_q1 kc_w_bytes_q1 .byte z_q1 [(.int w0_w_bytes_q1), (.int w1_w_bytes_q1), (.int w2_w_bytes_q1), (.int w3_w_bytes_q1)] (.int (0 : Int32))) (hz4 : 0 ≤ z_q1.toInt ∧ z_q1.toInt ≤ 4) :
    own_Fin p.tables e below (own_End below s (own_P h0 n0 (some (.long (own_f3s1 q2 q3 z_q1 w0_w_bytes_q1 w1_w_bytes_q1 w2_w_bytes_q1 w3_w_bytes_q1)))) 0 0) T0 (mkF m 0 #[.val (.ref q1), .val (.int q2), .val (.long q3), .second, .unset, .unset, .unset, .unset, .unset, .unset] []) := by
  refine own_aloadN X0 hx (hb hby d3_0) (pc' := 1) rfl rfl rfl ?_
  refine own_getF X0 hx hZ hown (hw _ (List.mem_of_getElem? (i := 18) rfl)) Via.refl e0 F_position_q1 (hb hby d3_1) (pc' := 4) rfl (fun T134 X134 e134 => ?_)
  refine own_ldc2Long X134 hx hZ hown (hw _ (List.mem_of_getElem? (i := 20) rfl)) (hb hby d3_4) (pc' := 7) rfl ?_
  refine own_ldiv X134 hx (hb hby d3_7) (pc' := 8) rfl (by decide) ?_
  show own_Fin _ _ _ _ T134 (mkF m 8 #[.val (.ref q1), .val (.int q2), .val (.long q3), .second, .unset, .unset, .unset, .unset, .unset, .unset] [(.long (1 : Int64))])
  refine own_l2i X134 hx (hb hby d3_8) (pc' := 9) rfl ?_
  show own_Fin _ _ _ _ T134 (mkF m 9 #[.val (.ref q1), .val (.int q2), .val (.long q3), .second, .unset, .unset, .unset, .unset, .unset, .unset] [(.int (1 : Int32))])
  refine own_istore X134 hx (hb hby d3_9) (pc' := 11) rfl (Ls' := #[.val (.ref q1), .val (.int q2), .val (.long q3), .second, .val (.int (1 : Int32)), .unset, .unset, .unset, .unset, .unset]) rfl ?_
  refine own_lloadN X134 hx (hb hby d3_11) (pc' := 12) rfl rfl ?_
  refine own_aloadN X134 hx (hb hby d3_12) (pc' := 13) rfl rfl rfl ?_
  refine own_getF X134 hx hZ hown (hw _ (List.mem_of_getElem? (i := 11) rfl)) Via.refl e134 F_bytes_q1 (hb hby d3_13) (pc' := 16) rfl (fun T135 X135 e135 => ?_)
  obtain ⟨cl136, Ar136, qa136, S136, M136, H136, G136⟩ := id A_w_bytes_q1
  refine own_st ?_ (fun t k => X135.arraylength hx (by rw [e135]; exact Ar136.1) (State.isArrayOf_alike hZ.alike Ar136.2.1) (g := (mkF m 16 #[.val (.ref q1), .val (.int q2), .val (.long q3), .second, .val (.int (1 : Int32)), .unset, .unset, .unset, .unset, .unset] [(.ref w_bytes_q1), (.long q3)])) rfl rfl (hb hby d3_16) t k)
  rw [len_of S136 M136]
  show own_Fin _ _ _ _ T135 (mkF m 17 #[.val (.ref q1), .val (.int q2), .val (.long q3), .second, .val (.int (1 : Int32)), .unset, .unset, .unset, .unset, .unset] [(.int z_q1), (.long q3)])
  refine own_iload X135 hx (hb hby d3_17) (pc' := 19) rfl rfl ?_
  refine own_isub X135 hx (hb hby d3_19) (pc' := 20) rfl ?_
  refine own_i2l X135 hx (hb hby d3_20) (pc' := 21) rfl ?_
  refine own_lcmp X135 hx (hb hby d3_21) (pc' := 22) rfl ?_
  by_cases hc137 : q3 < ((z_q1 - (1 : Int32)).toInt64)
  · refine own_ifNo X135 hx (hb hby d3_22) (pc' := 25) rfl ((if0 _ _).trans (tlt (own_lc_lt.mpr hc137)).2.1) ?_
    refine own_iload X135 hx (hb hby d3_25) (pc' := 27) rfl rfl ?_
    refine own_i2l X135 hx (hb hby d3_27) (pc' := 28) rfl ?_
    show own_Fin _ _ _ _ T135 (mkF m 28 #[.val (.ref q1), .val (.int q2), .val (.long q3), .second, .val (.int (1 : Int32)), .unset, .unset, .unset, .unset, .unset] [(.long (1 : Int64))])
    refine own_lloadN X135 hx (hb hby d3_28) (pc' := 29) rfl rfl ?_
    refine own_ladd X135 hx (hb hby d3_29) (pc' := 30) rfl ?_
    refine own_lconst X135 hx (hb hby d3_30) (pc' := 31) rfl (v := (1 : Int64)) rfl ?_
    refine own_ladd X135 hx (hb hby d3_31) (pc' := 32) rfl ?_
    refine own_goto X135 hx (hb hby d3_32) (pc' := 41) (by decide) (by decide) ?_
    refine own_lstore X135 hx (hb hby d3_41) (pc' := 43) rfl (Ls' := #[.val (.ref q1), .val (.int q2), .val (.long q3), .second, .val (.int (1 : Int32)), .val (.long (((1 : Int64) + q3) + (1 : Int64))), .second, .unset, .unset, .unset]) rfl ?_
    have hE : ¬ ((4 : Int64) < (((1 : Int64) + q3) + (1 : Int64))) := own_out2 (k := (1 : Int32)) hz4 (by decide) hc137
    refine own_ldc2Long X135 hx hZ hown (hw _ (List.mem_of_getElem? (i := 21) rfl)) (hb hby d3_43) (pc' := 46) rfl ?_
    refine own_lstore X135 hx (hb hby d3_46) (pc' := 48) rfl (Ls' := #[.val (.ref q1), .val (.int q2), .val (.long q3), .second, .val (.int (1 : Int32)), .val (.long (((1 : Int64) + q3) + (1 : Int64))), .second, .val (.long (-1 : Int64)), .second, .unset]) rfl ?_
    refine own_iload X135 hx (hb hby d3_48) (pc' := 50) rfl rfl ?_
    refine own_istore X135 hx (hb hby d3_50) (pc' := 52) rfl (Ls' := #[.val (.ref q1), .val (.int q2), .val (.long q3), .second, .val (.int (1 : Int32)), .val (.long (((1 : Int64) + q3) + (1 : Int64))), .second, .val (.long (-1 : Int64)), .second, .val (.int (1 : Int32))]) rfl ?_
    refine own_iload X135 hx (hb hby d3_52) (pc' := 54) rfl rfl ?_
    refine own_i2l X135 hx (hb hby d3_54) (pc' := 55) rfl ?_
    show own_Fin _ _ _ _ T135 (mkF m 55 #[.val (.ref q1), .val (.int q2), .val (.long q3), .second, .val (.int (1 : Int32)), .val (.long (((1 : Int64) + q3) + (1 : Int64))), .second, .val (.long (-1 : Int64)), .second, .val (.int (1 : Int32))] [(.long (1 : Int64))])
    refine own_lload X135 hx (hb hby d3_55) (pc' := 57) rfl rfl ?_
    refine own_lcmp X135 hx (hb hby d3_57) (pc' := 58) rfl ?_
    by_cases hc138 : (1 : Int64) < (((1 : Int64) + q3) + (1 : Int64))
    · refine own_ifNo X135 hx (hb hby d3_58) (pc' := 61) rfl ((if0 _ _).trans (tlt (own_lc_lt.mpr hc138)).2.1) ?_
      refine own_lload X135 hx (hb hby d3_61) (pc' := 63) rfl rfl ?_
      refine own_lconst X135 hx (hb hby d3_63) (pc' := 64) rfl (v := (0 : Int64)) rfl ?_
      refine own_lcmp X135 hx (hb hby d3_64) (pc' := 65) rfl ?_
      refine own_ifNo X135 hx (hb hby d3_65) (pc' := 68) rfl ((if0 _ _).trans (tlt (own_lc_lt.mpr (by decide : (-1 : Int64) < (0 : Int64)))).2.1) ?_
      have hz139 : (1 : Int32) < z_q1 := own_in2 (k := (1 : Int32)) hz4 (by decide) hc137 hc138
      refine own_aloadN X135 hx (hb hby d3_68) (pc' := 69) rfl rfl rfl ?_
      refine own_getF X135 hx hZ hown (hw _ (List.mem_of_getElem? (i := 11) rfl)) Via.refl e135 F_bytes_q1 (hb hby d3_69) (pc' := 72) rfl (fun T140 X140 e140 => ?_)
      refine own_iload X140 hx (hb hby d3_72) (pc' := 74) rfl rfl ?_
      obtain ⟨cl141, Ar141, qa141, S141, M141, H141, G141⟩ := id A_w_bytes_q1
      have hin141 : ¬ ((1 : Int32) < 0 ∨ cl141.slots.size ≤ ((1 : Int32)).toNatClampNeg) := inb_of S141 ⟨by decide, hz139⟩
      refine own_st ?_ (fun t k => X140.baloadBytes hx (j := (1 : Int32)) (v := (.int w1_w_bytes_q1)) (by rw [e140]; exact Ar141.1) (State.isArrayOf_alike hZ.alike Ar141.2.1) Ar141.2.2 hin141 (Has.at H141 hin141 rfl) (g := (mkF m 74 #[.val (.ref q1), .val (.int q2), .val (.long q3), .second, .val (.int (1 : Int32)), .val (.long (((1 : Int64) + q3) + (1 : Int64))), .second, .val (.long (-1 : Int64)), .second, .val (.int (1 : Int32))] [(.int (1 : Int32)), (.ref w_bytes_q1)])) rfl rfl (hb hby d3_74) t k)
      show own_Fin _ _ _ _ T140 (mkF m 75 #[.val (.ref q1), .val (.int q2), .val (.long q3), .second, .val (.int (1 : Int32)), .val (.long (((1 : Int64) + q3) + (1 : Int64))), .second, .val (.long (-1 : Int64)), .second, .val (.int (1 : Int32))] [(.int w1_w_bytes_q1)])
      refine own_sipush X140 hx (hb hby d3_75) (pc' := 78) rfl (v := (255 : Int32)) rfl ?_
      refine own_iand X140 hx (hb hby d3_78) (pc' := 79) rfl ?_
      refine own_iloadN X140 hx (hb hby d3_79) (pc' := 80) rfl rfl ?_
      by_cases hc142 : (w1_w_bytes_q1 &&& (255 : Int32)) = q2
      · refine own_icmpNo X140 hx (hb hby d3_80) (pc' := 83) rfl (teq hc142).2 ?_
        refine own_iload X140 hx (hb hby d3_83) (pc' := 85) rfl rfl ?_
        refine own_iload X140 hx (hb hby d3_85) (pc' := 87) rfl rfl ?_
        refine own_isub X140 hx (hb hby d3_87) (pc' := 88) rfl ?_
        show own_Fin _ _ _ _ T140 (mkF m 88 #[.val (.ref q1), .val (.int q2), .val (.long q3), .second, .val (.int (1 : Int32)), .val (.long (((1 : Int64) + q3) + (1 : Int64))), .second, .val (.long (-1 : Int64)), .second, .val (.int (1 : Int32))] [(.int (0 : Int32))])
        refine own_i2l X140 hx (hb hby d3_88) (pc' := 89) rfl ?_
        show own_Fin _ _ _ _ T140 (mkF m 89 #[.val (.ref q1), .val (.int q2), .val (.long q3), .second, .val (.int (1 : Int32)), .val (.long (((1 : Int64) + q3) + (1 : Int64))), .second, .val (.long (-1 : Int64)), .second, .val (.int (1 : Int32))] [(.long (0 : Int64))])
        refine own_lstore X140 hx (hb hby d3_89) (pc' := 91) rfl (Ls' := #[.val (.ref q1), .val (.int q2), .val (.long q3), .second, .val (.int (1 : Int32)), .val (.long (((1 : Int64) + q3) + (1 : Int64))), .second, .val (.long (0 : Int64)), .second, .val (.int (1 : Int32))]) rfl ?_
        refine own_iinc X140 hx (hb hby d3_91) (pc' := 94) rfl (Ls' := #[.val (.ref q1), .val (.int q2), .val (.long q3), .second, .val (.int (1 : Int32)), .val (.long (((1 : Int64) + q3) + (1 : Int64))), .second, .val (.long (0 : Int64)), .second, .val (.int (2 : Int32))]) rfl rfl ?_
        refine own_goto X140 hx (hb hby d3_94) (pc' := 52) (by decide) (by decide) ?_
        refine own_iload X140 hx (hb hby d3_52) (pc' := 54) rfl rfl ?_
        refine own_i2l X140 hx (hb hby d3_54) (pc' := 55) rfl ?_
        show own_Fin _ _ _ _ T140 (mkF m 55 #[.val (.ref q1), .val (.int q2), .val (.long q3), .second, .val (.int (1 : Int32)), .val (.long (((1 : Int64) + q3) + (1 : Int64))), .second, .val (.long (0 : Int64)), .second, .val (.int (2 : Int32))] [(.long (2 : Int64))])
        refine own_lload X140 hx (hb hby d3_55) (pc' := 57) rfl rfl ?_
        refine own_lcmp X140 hx (hb hby d3_57) (pc' := 58) rfl ?_
        by_cases hc143 : (2 : Int64) < (((1 : Int64) + q3) + (1 : Int64))
        · refine own_ifNo X140 hx (hb hby d3_58) (pc' := 61) rfl ((if0 _ _).trans (tlt (own_lc_lt.mpr hc143)).2.1) ?_
          refine own_lload X140 hx (hb hby d3_61) (pc' := 63) rfl rfl ?_
          refine own_lconst X140 hx (hb hby d3_63) (pc' := 64) rfl (v := (0 : Int64)) rfl ?_
          refine own_lcmp X140 hx (hb hby d3_64) (pc' := 65) rfl ?_
          refine own_ifYes X140 hx (hb hby d3_65) ((if0 _ _).trans (flt (mt own_lc_lt.mp (by decide : ¬ ((0 : Int64) < (0 : Int64))))).2.1) (pc' := 97) (by decide) (by decide) ?_
          refine own_lload X140 hx (hb hby d3_97) (pc' := 99) rfl rfl ?_
          refine own_retJ X140 hx hret hlk (hb hby d3_99) (by decide) (by decide) ?_
          show own_P _ _ _ _ T140.heap _
          exact ⟨(congrArg some (congrArg Value.long (show (0 : Int64) = (own_f3s1 q2 q3 z_q1 w0_w_bytes_q1 w1_w_bytes_q1 w2_w_bytes_q1 w3_w_bytes_q1) from by rw [own_f3s1, if_pos hc137, if_pos hc138, if_pos hc142, if_pos hc143]))), N0, e140⟩
        · refine own_ifYes X140 hx (hb hby d3_58) ((if0 _ _).trans (flt (mt own_lc_lt.mp hc143)).2.1) (pc' := 97) (by decide) (by decide) ?_
          refine own_lload X140 hx (hb hby d3_97) (pc' := 99) rfl rfl ?_
          refine own_retJ X140 hx hret hlk (hb hby d3_99) (by decide) (by decide) ?_
          show own_P _ _ _ _ T140.heap _
          exact ⟨(congrArg some (congrArg Value.long (show (0 : Int64) = (own_f3s1 q2 q3 z_q1 w0_w_bytes_q1 w1_w_bytes_q1 w2_w_bytes_q1 w3_w_bytes_q1) from by rw [own_f3s1, if_pos hc137, if_pos hc138, if_pos hc142, if_neg hc143]))), N0, e140⟩
      · refine own_icmpYes X140 hx (hb hby d3_80) (feq hc142).2 (pc' := 91) (by decide) (by decide) ?_
        refine own_iinc X140 hx (hb hby d3_91) (pc' := 94) rfl (Ls' := #[.val (.ref q1), .val (.int q2), .val (.long q3), .second, .val (.int (1 : Int32)), .val (.long (((1 : Int64) + q3) + (1 : Int64))), .second, .val (.long (-1 : Int64)), .second, .val (.int (2 : Int32))]) rfl rfl ?_
        refine own_goto X140 hx (hb hby d3_94) (pc' := 52) (by decide) (by decide) ?_
        refine own_iload X140 hx (hb hby d3_52) (pc' := 54) rfl rfl ?_
        refine own_i2l X140 hx (hb hby d3_54) (pc' := 55) rfl ?_
        show own_Fin _ _ _ _ T140 (mkF m 55 #[.val (.ref q1), .val (.int q2), .val (.long q3), .second, .val (.int (1 : Int32)), .val (.long (((1 : Int64) + q3) + (1 : Int64))), .second, .val (.long (-1 : Int64)), .second, .val (.int (2 : Int32))] [(.long (2 : Int64))])
        refine own_lload X140 hx (hb hby d3_55) (pc' := 57) rfl rfl ?_
        refine own_lcmp X140 hx (hb hby d3_57) (pc' := 58) rfl ?_
        by_cases hc144 : (2 : Int64) < (((1 : Int64) + q3) + (1 : Int64))
        · refine own_ifNo X140 hx (hb hby d3_58) (pc' := 61) rfl ((if0 _ _).trans (tlt (own_lc_lt.mpr hc144)).2.1) ?_
          refine own_lload X140 hx (hb hby d3_61) (pc' := 63) rfl rfl ?_
          refine own_lconst X140 hx (hb hby d3_63) (pc' := 64) rfl (v := (0 : Int64)) rfl ?_
          refine own_lcmp X140 hx (hb hby d3_64) (pc' := 65) rfl ?_
          refine own_ifNo X140 hx (hb hby d3_65) (pc' := 68) rfl ((if0 _ _).trans (tlt (own_lc_lt.mpr (by decide : (-1 : Int64) < (0 : Int64)))).2.1) ?_
          have hz145 : (2 : Int32) < z_q1 := own_in2 (k := (1 : Int32)) hz4 (by decide) hc137 hc144
          refine own_aloadN X140 hx (hb hby d3_68) (pc' := 69) rfl rfl rfl ?_
          refine own_getF X140 hx hZ hown (hw _ (List.mem_of_getElem? (i := 11) rfl)) Via.refl e140 F_bytes_q1 (hb hby d3_69) (pc' := 72) rfl (fun T146 X146 e146 => ?_)
          refine own_iload X146 hx (hb hby d3_72) (pc' := 74) rfl rfl ?_
          obtain ⟨cl147, Ar147, qa147, S147, M147, H147, G147⟩ := id A_w_bytes_q1
          have hin147 : ¬ ((2 : Int32) < 0 ∨ cl147.slots.size ≤ ((2 : Int32)).toNatClampNeg) := inb_of S147 ⟨by decide, hz145⟩
          refine own_st ?_ (fun t k => X146.baloadBytes hx (j := (2 : Int32)) (v := (.int w2_w_bytes_q1)) (by rw [e146]; exact Ar147.1) (State.isArrayOf_alike hZ.alike Ar147.2.1) Ar147.2.2 hin147 (Has.at H147 hin147 rfl) (g := (mkF m 74 #[.val (.ref q1), .val (.int q2), .val (.long q3), .second, .val (.int (1 : Int32)), .val (.long (((1 : Int64) + q3) + (1 : Int64))), .second, .val (.long (-1 : Int64)), .second, .val (.int (2 : Int32))] [(.int (2 : Int32)), (.ref w_bytes_q1)])) rfl rfl (hb hby d3_74) t k)
          show own_Fin _ _ _ _ T146 (mkF m 75 #[.val (.ref q1), .val (.int q2), .val (.long q3), .second, .val (.int (1 : Int32)), .val (.long (((1 : Int64) + q3) + (1 : Int64))), .second, .val (.long (-1 : Int64)), .second, .val (.int (2 : Int32))] [(.int w2_w_bytes_q1)])
          refine own_sipush X146 hx (hb hby d3_75) (pc' := 78) rfl (v := (255 : Int32)) rfl ?_
          refine own_iand X146 hx (hb hby d3_78) (pc' := 79) rfl ?_
          refine own_iloadN X146 hx (hb hby d3_79) (pc' := 80) rfl rfl ?_
          by_cases hc148 : (w2_w_bytes_q1 &&& (255 : Int32)) = q2
          · refine own_icmpNo X146 hx (hb hby d3_80) (pc' := 83) rfl (teq hc148).2 ?_
            refine own_iload X146 hx (hb hby d3_83) (pc' := 85) rfl rfl ?_
            refine own_iload X146 hx (hb hby d3_85) (pc' := 87) rfl rfl ?_
            refine own_isub X146 hx (hb hby d3_87) (pc' := 88) rfl ?_
            show own_Fin _ _ _ _ T146 (mkF m 88 #[.val (.ref q1), .val (.int q2), .val (.long q3), .second, .val (.int (1 : Int32)), .val (.long (((1 : Int64) + q3) + (1 : Int64))), .second, .val (.long (-1 : Int64)), .second, .val (.int (2 : Int32))] [(.int (1 : Int32))])
            refine own_i2l X146 hx (hb hby d3_88) (pc' := 89) rfl ?_
            show own_Fin _ _ _ _ T146 (mkF m 89 #[.val (.ref q1), .val (.int q2), .val (.long q3), .second, .val (.int (1 : Int32)), .val (.long (((1 : Int64) + q3) + (1 : Int64))), .second, .val (.long (-1 : Int64)), .second, .val (.int (2 : Int32))] [(.long (1 : Int64))])
            refine own_lstore X146 hx (hb hby d3_89) (pc' := 91) rfl (Ls' := #[.val (.ref q1), .val (.int q2), .val (.long q3), .second, .val (.int (1 : Int32)), .val (.long (((1 : Int64) + q3) + (1 : Int64))), .second, .val (.long (1 : Int64)), .second, .val (.int (2 : Int32))]) rfl ?_
            refine own_iinc X146 hx (hb hby d3_91) (pc' := 94) rfl (Ls' := #[.val (.ref q1), .val (.int q2), .val (.long q3), .second, .val (.int (1 : Int32)), .val (.long (((1 : Int64) + q3) + (1 : Int64))), .second, .val (.long (1 : Int64)), .second, .val (.int (3 : Int32))]) rfl rfl ?_
            refine own_goto X146 hx (hb hby d3_94) (pc' := 52) (by decide) (by decide) ?_
            refine own_iload X146 hx (hb hby d3_52) (pc' := 54) rfl rfl ?_
            refine own_i2l X146 hx (hb hby d3_54) (pc' := 55) rfl ?_
            show own_Fin _ _ _ _ T146 (mkF m 55 #[.val (.ref q1), .val (.int q2), .val (.long q3), .second, .val (.int (1 : Int32)), .val (.long (((1 : Int64) + q3) + (1 : Int64))), .second, .val (.long (1 : Int64)), .second, .val (.int (3 : Int32))] [(.long (3 : Int64))])
            refine own_lload X146 hx (hb hby d3_55) (pc' := 57) rfl rfl ?_
            refine own_lcmp X146 hx (hb hby d3_57) (pc' := 58) rfl ?_
            by_cases hc149 : (3 : Int64) < (((1 : Int64) + q3) + (1 : Int64))
            · refine own_ifNo X146 hx (hb hby d3_58) (pc' := 61) rfl ((if0 _ _).trans (tlt (own_lc_lt.mpr hc149)).2.1) ?_
              refine own_lload X146 hx (hb hby d3_61) (pc' := 63) rfl rfl ?_
              refine own_lconst X146 hx (hb hby d3_63) (pc' := 64) rfl (v := (0 : Int64)) rfl ?_
              refine own_lcmp X146 hx (hb hby d3_64) (pc' := 65) rfl ?_
              refine own_ifYes X146 hx (hb hby d3_65) ((if0 _ _).trans (flt (mt own_lc_lt.mp (by decide : ¬ ((1 : Int64) < (0 : Int64))))).2.1) (pc' := 97) (by decide) (by decide) ?_
              refine own_lload X146 hx (hb hby d3_97) (pc' := 99) rfl rfl ?_
              refine own_retJ X146 hx hret hlk (hb hby d3_99) (by decide) (by decide) ?_
              show own_P _ _ _ _ T146.heap _
              exact ⟨(congrArg some (congrArg Value.long (show (1 : Int64) = (own_f3s1 q2 q3 z_q1 w0_w_bytes_q1 w1_w_bytes_q1 w2_w_bytes_q1 w3_w_bytes_q1) from by rw [own_f3s1, if_pos hc137, if_pos hc138, if_neg hc142, if_pos hc144, if_pos hc148, if_pos hc149]))), N0, e146⟩
            · refine own_ifYes X146 hx (hb hby d3_58) ((if0 _ _).trans (flt (mt own_lc_lt.mp hc149)).2.1) (pc' := 97) (by decide) (by decide) ?_
              refine own_lload X146 hx (hb hby d3_97) (pc' := 99) rfl rfl ?_
              refine own_retJ X146 hx hret hlk (hb hby d3_99) (by decide) (by decide) ?_
              show own_P _ _ _ _ T146.heap _
              exact ⟨(congrArg some (congrArg Value.long (show (1 : Int64) = (own_f3s1 q2 q3 z_q1 w0_w_bytes_q1 w1_w_bytes_q1 w2_w_bytes_q1 w3_w_bytes_q1) from by rw [own_f3s1, if_pos hc137, if_pos hc138, if_neg hc142, if_pos hc144, if_pos hc148, if_neg hc149]))), N0, e146⟩
          · refine own_icmpYes X146 hx (hb hby d3_80) (feq hc148).2 (pc' := 91) (by decide) (by decide) ?_
            refine own_iinc X146 hx (hb hby d3_91) (pc' := 94) rfl (Ls' := #[.val (.ref q1), .val (.int q2), .val (.long q3), .second, .val (.int (1 : Int32)), .val (.long (((1 : Int64) + q3) + (1 : Int64))), .second, .val (.long (-1 : Int64)), .second, .val (.int (3 : Int32))]) rfl rfl ?_
            refine own_goto X146 hx (hb hby d3_94) (pc' := 52) (by decide) (by decide) ?_
            refine own_iload X146 hx (hb hby d3_52) (pc' := 54) rfl rfl ?_
            refine own_i2l X146 hx (hb hby d3_54) (pc' := 55) rfl ?_
            show own_Fin _ _ _ _ T146 (mkF m 55 #[.val (.ref q1), .val (.int q2), .val (.long q3), .second, .val (.int (1 : Int32)), .val (.long (((1 : Int64) + q3) + (1 : Int64))), .second, .val (.long (-1 : Int64)), .second, .val (.int (3 : Int32))] [(.long (3 : Int64))])
            refine own_lload X146 hx (hb hby d3_55) (pc' := 57) rfl rfl ?_
            refine own_lcmp X146 hx (hb hby d3_57) (pc' := 58) rfl ?_
            by_cases hc150 : (3 : Int64) < (((1 : Int64) + q3) + (1 : Int64))
            · refine own_ifNo X146 hx (hb hby d3_58) (pc' := 61) rfl ((if0 _ _).trans (tlt (own_lc_lt.mpr hc150)).2.1) ?_
              refine own_lload X146 hx (hb hby d3_61) (pc' := 63) rfl rfl ?_
              refine own_lconst X146 hx (hb hby d3_63) (pc' := 64) rfl (v := (0 : Int64)) rfl ?_
              refine own_lcmp X146 hx (hb hby d3_64) (pc' := 65) rfl ?_
              refine own_ifNo X146 hx (hb hby d3_65) (pc' := 68) rfl ((if0 _ _).trans (tlt (own_lc_lt.mpr (by decide : (-1 : Int64) < (0 : Int64)))).2.1) ?_
              have hz151 : (3 : Int32) < z_q1 := own_in2 (k := (1 : Int32)) hz4 (by decide) hc137 hc150
              refine own_aloadN X146 hx (hb hby d3_68) (pc' := 69) rfl rfl rfl ?_
              refine own_getF X146 hx hZ hown (hw _ (List.mem_of_getElem? (i := 11) rfl)) Via.refl e146 F_bytes_q1 (hb hby d3_69) (pc' := 72) rfl (fun T152 X152 e152 => ?_)
              refine own_iload X152 hx (hb hby d3_72) (pc' := 74) rfl rfl ?_
              obtain ⟨cl153, Ar153, qa153, S153, M153, H153, G153⟩ := id A_w_bytes_q1
              have hin153 : ¬ ((3 : Int32) < 0 ∨ cl153.slots.size ≤ ((3 : Int32)).toNatClampNeg) := inb_of S153 ⟨by decide, hz151⟩
              refine own_st ?_ (fun t k => X152.baloadBytes hx (j := (3 : Int32)) (v := (.int w3_w_bytes_q1)) (by rw [e152]; exact Ar153.1) (State.isArrayOf_alike hZ.alike Ar153.2.1) Ar153.2.2 hin153 (Has.at H153 hin153 rfl) (g := (mkF m 74 #[.val (.ref q1), .val (.int q2), .val (.long q3), .second, .val (.int (1 : Int32)), .val (.long (((1 : Int64) + q3) + (1 : Int64))), .second, .val (.long (-1 : Int64)), .second, .val (.int (3 : Int32))] [(.int (3 : Int32)), (.ref w_bytes_q1)])) rfl rfl (hb hby d3_74) t k)
              show own_Fin _ _ _ _ T152 (mkF m 75 #[.val (.ref q1), .val (.int q2), .val (.long q3), .second, .val (.int (1 : Int32)), .val (.long (((1 : Int64) + q3) + (1 : Int64))), .second, .val (.long (-1 : Int64)), .second, .val (.int (3 : Int32))] [(.int w3_w_bytes_q1)])
              refine own_sipush X152 hx (hb hby d3_75) (pc' := 78) rfl (v := (255 : Int32)) rfl ?_
              refine own_iand X152 hx (hb hby d3_78) (pc' := 79) rfl ?_
              refine own_iloadN X152 hx (hb hby d3_79) (pc' := 80) rfl rfl ?_
              by_cases hc154 : (w3_w_bytes_q1 &&& (255 : Int32)) = q2
              · refine own_icmpNo X152 hx (hb hby d3_80) (pc' := 83) rfl (teq hc154).2 ?_
                refine own_iload X152 hx (hb hby d3_83) (pc' := 85) rfl rfl ?_
                refine own_iload X152 hx (hb hby d3_85) (pc' := 87) rfl rfl ?_
                refine own_isub X152 hx (hb hby d3_87) (pc' := 88) rfl ?_
                show own_Fin _ _ _ _ T152 (mkF m 88 #[.val (.ref q1), .val (.int q2), .val (.long q3), .second, .val (.int (1 : Int32)), .val (.long (((1 : Int64) + q3) + (1 : Int64))), .second, .val (.long (-1 : Int64)), .second, .val (.int (3 : Int32))] [(.int (2 : Int32))])
                refine own_i2l X152 hx (hb hby d3_88) (pc' := 89) rfl ?_
                show own_Fin _ _ _ _ T152 (mkF m 89 #[.val (.ref q1), .val (.int q2), .val (.long q3), .second, .val (.int (1 : Int32)), .val (.long (((1 : Int64) + q3) + (1 : Int64))), .second, .val (.long (-1 : Int64)), .second, .val (.int (3 : Int32))] [(.long (2 : Int64))])
                refine own_lstore X152 hx (hb hby d3_89) (pc' := 91) rfl (Ls' := #[.val (.ref q1), .val (.int q2), .val (.long q3), .second, .val (.int (1 : Int32)), .val (.long (((1 : Int64) + q3) + (1 : Int64))), .second, .val (.long (2 : Int64)), .second, .val (.int (3 : Int32))]) rfl ?_
                refine own_iinc X152 hx (hb hby d3_91) (pc' := 94) rfl (Ls' := #[.val (.ref q1), .val (.int q2), .val (.long q3), .second, .val (.int (1 : Int32)), .val (.long (((1 : Int64) + q3) + (1 : Int64))), .second, .val (.long (2 : Int64)), .second, .val (.int (4 : Int32))]) rfl rfl ?_
                refine own_goto X152 hx (hb hby d3_94) (pc' := 52) (by decide) (by decide) ?_
                refine own_iload X152 hx (hb hby d3_52) (pc' := 54) rfl rfl ?_
                refine own_i2l X152 hx (hb hby d3_54) (pc' := 55) rfl ?_
                show own_Fin _ _ _ _ T152 (mkF m 55 #[.val (.ref q1), .val (.int q2), .val (.long q3), .second, .val (.int (1 : Int32)), .val (.long (((1 : Int64) + q3) + (1 : Int64))), .second, .val (.long (2 : Int64)), .second, .val (.int (4 : Int32))] [(.long (4 : Int64))])
                refine own_lload X152 hx (hb hby d3_55) (pc' := 57) rfl rfl ?_
                refine own_lcmp X152 hx (hb hby d3_57) (pc' := 58) rfl ?_
                refine own_ifYes X152 hx (hb hby d3_58) ((if0 _ _).trans (flt (mt own_lc_lt.mp hE)).2.1) (pc' := 97) (by decide) (by decide) ?_
                refine own_lload X152 hx (hb hby d3_97) (pc' := 99) rfl rfl ?_
                refine own_retJ X152 hx hret hlk (hb hby d3_99) (by decide) (by decide) ?_
                show own_P _ _ _ _ T152.heap _
                exact ⟨(congrArg some (congrArg Value.long (show (2 : Int64) = (own_f3s1 q2 q3 z_q1 w0_w_bytes_q1 w1_w_bytes_q1 w2_w_bytes_q1 w3_w_bytes_q1) from by rw [own_f3s1, if_pos hc137, if_pos hc138, if_neg hc142, if_pos hc144, if_neg hc148, if_pos hc150, if_pos hc154]))), N0, e152⟩
              · refine own_icmpYes X152 hx (hb hby d3_80) (feq hc154).2 (pc' := 91) (by decide) (by decide) ?_
                refine own_iinc X152 hx (hb hby d3_91) (pc' := 94) rfl (Ls' := #[.val (.ref q1), .val (.int q2), .val (.long q3), .second, .val (.int (1 : Int32)), .val (.long (((1 : Int64) + q3) + (1 : Int64))), .second, .val (.long (-1 : Int64)), .second, .val (.int (4 : Int32))]) rfl rfl ?_
                refine own_goto X152 hx (hb hby d3_94) (pc' := 52) (by decide) (by decide) ?_
                refine own_iload X152 hx (hb hby d3_52) (pc' := 54) rfl rfl ?_
                refine own_i2l X152 hx (hb hby d3_54) (pc' := 55) rfl ?_
                show own_Fin _ _ _ _ T152 (mkF m 55 #[.val (.ref q1), .val (.int q2), .val (.long q3), .second, .val (.int (1 : Int32)), .val (.long (((1 : Int64) + q3) + (1 : Int64))), .second, .val (.long (-1 : Int64)), .second, .val (.int (4 : Int32))] [(.long (4 : Int64))])
                refine own_lload X152 hx (hb hby d3_55) (pc' := 57) rfl rfl ?_
                refine own_lcmp X152 hx (hb hby d3_57) (pc' := 58) rfl ?_
                refine own_ifYes X152 hx (hb hby d3_58) ((if0 _ _).trans (flt (mt own_lc_lt.mp hE)).2.1) (pc' := 97) (by decide) (by decide) ?_
                refine own_lload X152 hx (hb hby d3_97) (pc' := 99) rfl rfl ?_
                refine own_retJ X152 hx hret hlk (hb hby d3_99) (by decide) (by decide) ?_
                show own_P _ _ _ _ T152.heap _
                exact ⟨(congrArg some (congrArg Value.long (show (-1 : Int64) = (own_f3s1 q2 q3 z_q1 w0_w_bytes_q1 w1_w_bytes_q1 w2_w_bytes_q1 w3_w_bytes_q1) from by rw [own_f3s1, if_pos hc137, if_pos hc138, if_neg hc142, if_pos hc144, if_neg hc148, if_pos hc150, if_neg hc154]))), N0, e152⟩
            · refine own_ifYes X146 hx (hb hby d3_58) ((if0 _ _).trans (flt (mt own_lc_lt.mp hc150)).2.1) (pc' := 97) (by decide) (by decide) ?_
              refine own_lload X146 hx (hb hby d3_97) (pc' := 99) rfl rfl ?_
              refine own_retJ X146 hx hret hlk (hb hby d3_99) (by decide) (by decide) ?_
              show own_P _ _ _ _ T146.heap _
              exact ⟨(congrArg some (congrArg Value.long (show (-1 : Int64) = (own_f3s1 q2 q3 z_q1 w0_w_bytes_q1 w1_w_bytes_q1 w2_w_bytes_q1 w3_w_bytes_q1) from by rw [own_f3s1, if_pos hc137, if_pos hc138, if_neg hc142, if_pos hc144, if_neg hc148, if_neg hc150]))), N0, e146⟩
        · refine own_ifYes X140 hx (hb hby d3_58) ((if0 _ _).trans (flt (mt own_lc_lt.mp hc144)).2.1) (pc' := 97) (by decide) (by decide) ?_
          refine own_lload X140 hx (hb hby d3_97) (pc' := 99) rfl rfl ?_
          refine own_retJ X140 hx hret hlk (hb hby d3_99) (by decide) (by decide) ?_
          show own_P _ _ _ _ T140.heap _
          exact ⟨(congrArg some (congrArg Value.long (show (-1 : Int64) = (own_f3s1 q2 q3 z_q1 w0_w_bytes_q1 w1_w_bytes_q1 w2_w_bytes_q1 w3_w_bytes_q1) from by rw [own_f3s1, if_pos hc137, if_pos hc138, if_neg hc142, if_neg hc144]))), N0, e140⟩
    · refine own_ifYes X135 hx (hb hby d3_58) ((if0 _ _).trans (flt (mt own_lc_lt.mp hc138)).2.1) (pc' := 97) (by decide) (by decide) ?_
      refine own_lload X135 hx (hb hby d3_97) (pc' := 99) rfl rfl ?_
      refine own_retJ X135 hx hret hlk (hb hby d3_99) (by decide) (by decide) ?_
      show own_P _ _ _ _ T135.heap _
      exact ⟨(congrArg some (congrArg Value.long (show (-1 : Int64) = (own_f3s1 q2 q3 z_q1 w0_w_bytes_q1 w1_w_bytes_q1 w2_w_bytes_q1 w3_w_bytes_q1) from by rw [own_f3s1, if_pos hc137, if_neg hc138]))), N0, e135⟩
  · refine own_ifYes X135 hx (hb hby d3_22) ((if0 _ _).trans (flt (mt own_lc_lt.mp hc137)).2.1) (pc' := 35) (by decide) (by decide) ?_
    refine own_aloadN X135 hx (hb hby d3_35) (pc' := 36) rfl rfl rfl ?_
    refine own_getF X135 hx hZ hown (hw _ (List.mem_of_getElem? (i := 11) rfl)) Via.refl e135 F_bytes_q1 (hb hby d3_36) (pc' := 39) rfl (fun T155 X155 e155 => ?_)
    obtain ⟨cl156, Ar156, qa156, S156, M156, H156, G156⟩ := id A_w_bytes_q1
    refine own_st ?_ (fun t k => X155.arraylength hx (by rw [e155]; exact Ar156.1) (State.isArrayOf_alike hZ.alike Ar156.2.1) (g := (mkF m 39 #[.val (.ref q1), .val (.int q2), .val (.long q3), .second, .val (.int (1 : Int32)), .unset, .unset, .unset, .unset, .unset] [(.ref w_bytes_q1)])) rfl rfl (hb hby d3_39) t k)
    rw [len_of S156 M156]
    show own_Fin _ _ _ _ T155 (mkF m 40 #[.val (.ref q1), .val (.int q2), .val (.long q3), .second, .val (.int (1 : Int32)), .unset, .unset, .unset, .unset, .unset] [(.int z_q1)])
    refine own_i2l X155 hx (hb hby d3_40) (pc' := 41) rfl ?_
    refine own_lstore X155 hx (hb hby d3_41) (pc' := 43) rfl (Ls' := #[.val (.ref q1), .val (.int q2), .val (.long q3), .second, .val (.int (1 : Int32)), .val (.long (z_q1.toInt64)), .second, .unset, .unset, .unset]) rfl ?_
    have hE : ¬ ((4 : Int64) < (z_q1.toInt64)) := own_out1 hz4
    refine own_ldc2Long X155 hx hZ hown (hw _ (List.mem_of_getElem? (i := 21) rfl)) (hb hby d3_43) (pc' := 46) rfl ?_
    refine own_lstore X155 hx (hb hby d3_46) (pc' := 48) rfl (Ls' := #[.val (.ref q1), .val (.int q2), .val (.long q3), .second, .val (.int (1 : Int32)), .val (.long (z_q1.toInt64)), .second, .val (.long (-1 : Int64)), .second, .unset]) rfl ?_
    refine own_iload X155 hx (hb hby d3_48) (pc' := 50) rfl rfl ?_
    refine own_istore X155 hx (hb hby d3_50) (pc' := 52) rfl (Ls' := #[.val (.ref q1), .val (.int q2), .val (.long q3), .second, .val (.int (1 : Int32)), .val (.long (z_q1.toInt64)), .second, .val (.long (-1 : Int64)), .second, .val (.int (1 : Int32))]) rfl ?_
    refine own_iload X155 hx (hb hby d3_52) (pc' := 54) rfl rfl ?_
    refine own_i2l X155 hx (hb hby d3_54) (pc' := 55) rfl ?_
    show own_Fin _ _ _ _ T155 (mkF m 55 #[.val (.ref q1), .val (.int q2), .val (.long q3), .second, .val (.int (1 : Int32)), .val (.long (z_q1.toInt64)), .second, .val (.long (-1 : Int64)), .second, .val (.int (1 : Int32))] [(.long (1 : Int64))])
    refine own_lload X155 hx (hb hby d3_55) (pc' := 57) rfl rfl ?_
    refine own_lcmp X155 hx (hb hby d3_57) (pc' := 58) rfl ?_
    by_cases hc157 : (1 : Int64) < (z_q1.toInt64)
    · refine own_ifNo X155 hx (hb hby d3_58) (pc' := 61) rfl ((if0 _ _).trans (tlt (own_lc_lt.mpr hc157)).2.1) ?_
      refine own_lload X155 hx (hb hby d3_61) (pc' := 63) rfl rfl ?_
      refine own_lconst X155 hx (hb hby d3_63) (pc' := 64) rfl (v := (0 : Int64)) rfl ?_
      refine own_lcmp X155 hx (hb hby d3_64) (pc' := 65) rfl ?_
      refine own_ifNo X155 hx (hb hby d3_65) (pc' := 68) rfl ((if0 _ _).trans (tlt (own_lc_lt.mpr (by decide : (-1 : Int64) < (0 : Int64)))).2.1) ?_
      have hz158 : (1 : Int32) < z_q1 := own_in1 (by decide) hc157
      refine own_aloadN X155 hx (hb hby d3_68) (pc' := 69) rfl rfl rfl ?_
      refine own_getF X155 hx hZ hown (hw _ (List.mem_of_getElem? (i := 11) rfl)) Via.refl e155 F_bytes_q1 (hb hby d3_69) (pc' := 72) rfl (fun T159 X159 e159 => ?_)
      refine own_iload X159 hx (hb hby d3_72) (pc' := 74) rfl rfl ?_
      obtain ⟨cl160, Ar160, qa160, S160, M160, H160, G160⟩ := id A_w_bytes_q1
      have hin160 : ¬ ((1 : Int32) < 0 ∨ cl160.slots.size ≤ ((1 : Int32)).toNatClampNeg) := inb_of S160 ⟨by decide, hz158⟩
      refine own_st ?_ (fun t k => X159.baloadBytes hx (j := (1 : Int32)) (v := (.int w1_w_bytes_q1)) (by rw [e159]; exact Ar160.1) (State.isArrayOf_alike hZ.alike Ar160.2.1) Ar160.2.2 hin160 (Has.at H160 hin160 rfl) (g := (mkF m 74 #[.val (.ref q1), .val (.int q2), .val (.long q3), .second, .val (.int (1 : Int32)), .val (.long (z_q1.toInt64)), .second, .val (.long (-1 : Int64)), .second, .val (.int (1 : Int32))] [(.int (1 : Int32)), (.ref w_bytes_q1)])) rfl rfl (hb hby d3_74) t k)
      show own_Fin _ _ _ _ T159 (mkF m 75 #[.val (.ref q1), .val (.int q2), .val (.long q3), .second, .val (.int (1 : Int32)), .val (.long (z_q1.toInt64)), .second, .val (.long (-1 : Int64)), .second, .val (.int (1 : Int32))] [(.int w1_w_bytes_q1)])
      refine own_sipush X159 hx (hb hby d3_75) (pc' := 78) rfl (v := (255 : Int32)) rfl ?_
      refine own_iand X159 hx (hb hby d3_78) (pc' := 79) rfl ?_
      refine own_iloadN X159 hx (hb hby d3_79) (pc' := 80) rfl rfl ?_
      by_cases hc161 : (w1_w_bytes_q1 &&& (255 : Int32)) = q2
      · refine own_icmpNo X159 hx (hb hby d3_80) (pc' := 83) rfl (teq hc161).2 ?_
        refine own_iload X159 hx (hb hby d3_83) (pc' := 85) rfl rfl ?_
        refine own_iload X159 hx (hb hby d3_85) (pc' := 87) rfl rfl ?_
        refine own_isub X159 hx (hb hby d3_87) (pc' := 88) rfl ?_
        show own_Fin _ _ _ _ T159 (mkF m 88 #[.val (.ref q1), .val (.int q2), .val (.long q3), .second, .val (.int (1 : Int32)), .val (.long (z_q1.toInt64)), .second, .val (.long (-1 : Int64)), .second, .val (.int (1 : Int32))] [(.int (0 : Int32))])
        refine own_i2l X159 hx (hb hby d3_88) (pc' := 89) rfl ?_
        show own_Fin _ _ _ _ T159 (mkF m 89 #[.val (.ref q1), .val (.int q2), .val (.long q3), .second, .val (.int (1 : Int32)), .val (.long (z_q1.toInt64)), .second, .val (.long (-1 : Int64)), .second, .val (.int (1 : Int32))] [(.long (0 : Int64))])
        refine own_lstore X159 hx (hb hby d3_89) (pc' := 91) rfl (Ls' := #[.val (.ref q1), .val (.int q2), .val (.long q3), .second, .val (.int (1 : Int32)), .val (.long (z_q1.toInt64)), .second, .val (.long (0 : Int64)), .second, .val (.int (1 : Int32))]) rfl ?_
        refine own_iinc X159 hx (hb hby d3_91) (pc' := 94) rfl (Ls' := #[.val (.ref q1), .val (.int q2), .val (.long q3), .second, .val (.int (1 : Int32)), .val (.long (z_q1.toInt64)), .second, .val (.long (0 : Int64)), .second, .val (.int (2 : Int32))]) rfl rfl ?_
        refine own_goto X159 hx (hb hby d3_94) (pc' := 52) (by decide) (by decide) ?_
        refine own_iload X159 hx (hb hby d3_52) (pc' := 54) rfl rfl ?_
        refine own_i2l X159 hx (hb hby d3_54) (pc' := 55) rfl ?_
        show own_Fin _ _ _ _ T159 (mkF m 55 #[.val (.ref q1), .val (.int q2), .val (.long q3), .second, .val (.int (1 : Int32)), .val (.long (z_q1.toInt64)), .second, .val (.long (0 : Int64)), .second, .val (.int (2 : Int32))] [(.long (2 : Int64))])
        refine own_lload X159 hx (hb hby d3_55) (pc' := 57) rfl rfl ?_
        refine own_lcmp X159 hx (hb hby d3_57) (pc' := 58) rfl ?_
        by_cases hc162 : (2 : Int64) < (z_q1.toInt64)
        · refine own_ifNo X159 hx (hb hby d3_58) (pc' := 61) rfl ((if0 _ _).trans (tlt (own_lc_lt.mpr hc162)).2.1) ?_
          refine own_lload X159 hx (hb hby d3_61) (pc' := 63) rfl rfl ?_
          refine own_lconst X159 hx (hb hby d3_63) (pc' := 64) rfl (v := (0 : Int64)) rfl ?_
          refine own_lcmp X159 hx (hb hby d3_64) (pc' := 65) rfl ?_
          refine own_ifYes X159 hx (hb hby d3_65) ((if0 _ _).trans (flt (mt own_lc_lt.mp (by decide : ¬ ((0 : Int64) < (0 : Int64))))).2.1) (pc' := 97) (by decide) (by decide) ?_
          refine own_lload X159 hx (hb hby d3_97) (pc' := 99) rfl rfl ?_
          refine own_retJ X159 hx hret hlk (hb hby d3_99) (by decide) (by decide) ?_
          show own_P _ _ _ _ T159.heap _
          exact ⟨(congrArg some (congrArg Value.long (show (0 : Int64) = (own_f3s1 q2 q3 z_q1 w0_w_bytes_q1 w1_w_bytes_q1 w2_w_bytes_q1 w3_w_bytes_q1) from by rw [own_f3s1, if_neg hc137, if_pos hc157, if_pos hc161, if_pos hc162]))), N0, e159⟩
        · refine own_ifYes X159 hx (hb hby d3_58) ((if0 _ _).trans (flt (mt own_lc_lt.mp hc162)).2.1) (pc' := 97) (by decide) (by decide) ?_
          refine own_lload X159 hx (hb hby d3_97) (pc' := 99) rfl rfl ?_
          refine own_retJ X159 hx hret hlk (hb hby d3_99) (by decide) (by decide) ?_
          show own_P _ _ _ _ T159.heap _
          exact ⟨(congrArg some (congrArg Value.long (show (0 : Int64) = (own_f3s1 q2 q3 z_q1 w0_w_bytes_q1 w1_w_bytes_q1 w2_w_bytes_q1 w3_w_bytes_q1) from by rw [own_f3s1, if_neg hc137, if_pos hc157, if_pos hc161, if_neg hc162]))), N0, e159⟩
      · refine own_icmpYes X159 hx (hb hby d3_80) (feq hc161).2 (pc' := 91) (by decide) (by decide) ?_
        refine own_iinc X159 hx (hb hby d3_91) (pc' := 94) rfl (Ls' := #[.val (.ref q1), .val (.int q2), .val (.long q3), .second, .val (.int (1 : Int32)), .val (.long (z_q1.toInt64)), .second, .val (.long (-1 : Int64)), .second, .val (.int (2 : Int32))]) rfl rfl ?_
        refine own_goto X159 hx (hb hby d3_94) (pc' := 52) (by decide) (by decide) ?_
        refine own_iload X159 hx (hb hby d3_52) (pc' := 54) rfl rfl ?_
        refine own_i2l X159 hx (hb hby d3_54) (pc' := 55) rfl ?_
        show own_Fin _ _ _ _ T159 (mkF m 55 #[.val (.ref q1), .val (.int q2), .val (.long q3), .second, .val (.int (1 : Int32)), .val (.long (z_q1.toInt64)), .second, .val (.long (-1 : Int64)), .second, .val (.int (2 : Int32))] [(.long (2 : Int64))])
        refine own_lload X159 hx (hb hby d3_55) (pc' := 57) rfl rfl ?_
        refine own_lcmp X159 hx (hb hby d3_57) (pc' := 58) rfl ?_
        by_cases hc163 : (2 : Int64) < (z_q1.toInt64)
        · refine own_ifNo X159 hx (hb hby d3_58) (pc' := 61) rfl ((if0 _ _).trans (tlt (own_lc_lt.mpr hc163)).2.1) ?_
          refine own_lload X159 hx (hb hby d3_61) (pc' := 63) rfl rfl ?_
          refine own_lconst X159 hx (hb hby d3_63) (pc' := 64) rfl (v := (0 : Int64)) rfl ?_
          refine own_lcmp X159 hx (hb hby d3_64) (pc' := 65) rfl ?_
          refine own_ifNo X159 hx (hb hby d3_65) (pc' := 68) rfl ((if0 _ _).trans (tlt (own_lc_lt.mpr (by decide : (-1 : Int64) < (0 : Int64)))).2.1) ?_
          have hz164 : (2 : Int32) < z_q1 := own_in1 (by decide) hc163
          refine own_aloadN X159 hx (hb hby d3_68) (pc' := 69) rfl rfl rfl ?_
          refine own_getF X159 hx hZ hown (hw _ (List.mem_of_getElem? (i := 11) rfl)) Via.refl e159 F_bytes_q1 (hb hby d3_69) (pc' := 72) rfl (fun T165 X165 e165 => ?_)
          refine own_iload X165 hx (hb hby d3_72) (pc' := 74) rfl rfl ?_
          obtain ⟨cl166, Ar166, qa166, S166, M166, H166, G166⟩ := id A_w_bytes_q1
          have hin166 : ¬ ((2 : Int32) < 0 ∨ cl166.slots.size ≤ ((2 : Int32)).toNatClampNeg) := inb_of S166 ⟨by decide, hz164⟩
          refine own_st ?_ (fun t k => X165.baloadBytes hx (j := (2 : Int32)) (v := (.int w2_w_bytes_q1)) (by rw [e165]; exact Ar166.1) (State.isArrayOf_alike hZ.alike Ar166.2.1) Ar166.2.2 hin166 (Has.at H166 hin166 rfl) (g := (mkF m 74 #[.val (.ref q1), .val (.int q2), .val (.long q3), .second, .val (.int (1 : Int32)), .val (.long (z_q1.toInt64)), .second, .val (.long (-1 : Int64)), .second, .val (.int (2 : Int32))] [(.int (2 : Int32)), (.ref w_bytes_q1)])) rfl rfl (hb hby d3_74) t k)
          show own_Fin _ _ _ _ T165 (mkF m 75 #[.val (.ref q1), .val (.int q2), .val (.long q3), .second, .val (.int (1 : Int32)), .val (.long (z_q1.toInt64)), .second, .val (.long (-1 : Int64)), .second, .val (.int (2 : Int32))] [(.int w2_w_bytes_q1)])
          refine own_sipush X165 hx (hb hby d3_75) (pc' := 78) rfl (v := (255 : Int32)) rfl ?_
          refine own_iand X165 hx (hb hby d3_78) (pc' := 79) rfl ?_
          refine own_iloadN X165 hx (hb hby d3_79) (pc' := 80) rfl rfl ?_
          by_cases hc167 : (w2_w_bytes_q1 &&& (255 : Int32)) = q2
          · refine own_icmpNo X165 hx (hb hby d3_80) (pc' := 83) rfl (teq hc167).2 ?_
            refine own_iload X165 hx (hb hby d3_83) (pc' := 85) rfl rfl ?_
            refine own_iload X165 hx (hb hby d3_85) (pc' := 87) rfl rfl ?_
            refine own_isub X165 hx (hb hby d3_87) (pc' := 88) rfl ?_
            show own_Fin _ _ _ _ T165 (mkF m 88 #[.val (.ref q1), .val (.int q2), .val (.long q3), .second, .val (.int (1 : Int32)), .val (.long (z_q1.toInt64)), .second, .val (.long (-1 : Int64)), .second, .val (.int (2 : Int32))] [(.int (1 : Int32))])
            refine own_i2l X165 hx (hb hby d3_88) (pc' := 89) rfl ?_
            show own_Fin _ _ _ _ T165 (mkF m 89 #[.val (.ref q1), .val (.int q2), .val (.long q3), .second, .val (.int (1 : Int32)), .val (.long (z_q1.toInt64)), .second, .val (.long (-1 : Int64)), .second, .val (.int (2 : Int32))] [(.long (1 : Int64))])
            refine own_lstore X165 hx (hb hby d3_89) (pc' := 91) rfl (Ls' := #[.val (.ref q1), .val (.int q2), .val (.long q3), .second, .val (.int (1 : Int32)), .val (.long (z_q1.toInt64)), .second, .val (.long (1 : Int64)), .second, .val (.int (2 : Int32))]) rfl ?_
            refine own_iinc X165 hx (hb hby d3_91) (pc' := 94) rfl (Ls' := #[.val (.ref q1), .val (.int q2), .val (.long q3), .second, .val (.int (1 : Int32)), .val (.long (z_q1.toInt64)), .second, .val (.long (1 : Int64)), .second, .val (.int (3 : Int32))]) rfl rfl ?_
            refine own_goto X165 hx (hb hby d3_94) (pc' := 52) (by decide) (by decide) ?_
            refine own_iload X165 hx (hb hby d3_52) (pc' := 54) rfl rfl ?_
            refine own_i2l X165 hx (hb hby d3_54) (pc' := 55) rfl ?_
            show own_Fin _ _ _ _ T165 (mkF m 55 #[.val (.ref q1), .val (.int q2), .val (.long q3), .second, .val (.int (1 : Int32)), .val (.long (z_q1.toInt64)), .second, .val (.long (1 : Int64)), .second, .val (.int (3 : Int32))] [(.long (3 : Int64))])
            refine own_lload X165 hx (hb hby d3_55) (pc' := 57) rfl rfl ?_
            refine own_lcmp X165 hx (hb hby d3_57) (pc' := 58) rfl ?_
            by_cases hc168 : (3 : Int64) < (z_q1.toInt64)
            · refine own_ifNo X165 hx (hb hby d3_58) (pc' := 61) rfl ((if0 _ _).trans (tlt (own_lc_lt.mpr hc168)).2.1) ?_
              refine own_lload X165 hx (hb hby d3_61) (pc' := 63) rfl rfl ?_
              refine own_lconst X165 hx (hb hby d3_63) (pc' := 64) rfl (v := (0 : Int64)) rfl ?_
              refine own_lcmp X165 hx (hb hby d3_64) (pc' := 65) rfl ?_
              refine own_ifYes X165 hx (hb hby d3_65) ((if0 _ _).trans (flt (mt own_lc_lt.mp (by decide : ¬ ((1 : Int64) < (0 : Int64))))).2.1) (pc' := 97) (by decide) (by decide) ?_
              refine own_lload X165 hx (hb hby d3_97) (pc' := 99) rfl rfl ?_
              refine own_retJ X165 hx hret hlk (hb hby d3_99) (by decide) (by decide) ?_
              show own_P _ _ _ _ T165.heap _
              exact ⟨(congrArg some (congrArg Value.long (show (1 : Int64) = (own_f3s1 q2 q3 z_q1 w0_w_bytes_q1 w1_w_bytes_q1 w2_w_bytes_q1 w3_w_bytes_q1) from by rw [own_f3s1, if_neg hc137, if_pos hc157, if_neg hc161, if_pos hc163, if_pos hc167, if_pos hc168]))), N0, e165⟩
            · refine own_ifYes X165 hx (hb hby d3_58) ((if0 _ _).trans (flt (mt own_lc_lt.mp hc168)).2.1) (pc' := 97) (by decide) (by decide) ?_
              refine own_lload X165 hx (hb hby d3_97) (pc' := 99) rfl rfl ?_
              refine own_retJ X165 hx hret hlk (hb hby d3_99) (by decide) (by decide) ?_
              show own_P _ _ _ _ T165.heap _
              exact ⟨(congrArg some (congrArg Value.long (show (1 : Int64) = (own_f3s1 q2 q3 z_q1 w0_w_bytes_q1 w1_w_bytes_q1 w2_w_bytes_q1 w3_w_bytes_q1) from by rw [own_f3s1, if_neg hc137, if_pos hc157, if_neg hc161, if_pos hc163, if_pos hc167, if_neg hc168]))), N0, e165⟩
          · refine own_icmpYes X165 hx (hb hby d3_80) (feq hc167).2 (pc' := 91) (by decide) (by decide) ?_
            refine own_iinc X165 hx (hb hby d3_91) (pc' := 94) rfl (Ls' := #[.val (.ref q1), .val (.int q2), .val (.long q3), .second, .val (.int (1 : Int32)), .val (.long (z_q1.toInt64)), .second, .val (.long (-1 : Int64)), .second, .val (.int (3 : Int32))]) rfl rfl ?_
            refine own_goto X165 hx (hb hby d3_94) (pc' := 52) (by decide) (by decide) ?_
            refine own_iload X165 hx (hb hby d3_52) (pc' := 54) rfl rfl ?_
            refine own_i2l X165 hx (hb hby d3_54) (pc' := 55) rfl ?_
            show own_Fin _ _ _ _ T165 (mkF m 55 #[.val (.ref q1), .val (.int q2), .val (.long q3), .second, .val (.int (1 : Int32)), .val (.long (z_q1.toInt64)), .second, .val (.long (-1 : Int64)), .second, .val (.int (3 : Int32))] [(.long (3 : Int64))])
            refine own_lload X165 hx (hb hby d3_55) (pc' := 57) rfl rfl ?_
            refine own_lcmp X165 hx (hb hby d3_57) (pc' := 58) rfl ?_
            by_cases hc169 : (3 : Int64) < (z_q1.toInt64)
            · refine own_ifNo X165 hx (hb hby d3_58) (pc' := 61) rfl ((if0 _ _).trans (tlt (own_lc_lt.mpr hc169)).2.1) ?_
              refine own_lload X165 hx (hb hby d3_61) (pc' := 63) rfl rfl ?_
              refine own_lconst X165 hx (hb hby d3_63) (pc' := 64) rfl (v := (0 : Int64)) rfl ?_
              refine own_lcmp X165 hx (hb hby d3_64) (pc' := 65) rfl ?_
              refine own_ifNo X165 hx (hb hby d3_65) (pc' := 68) rfl ((if0 _ _).trans (tlt (own_lc_lt.mpr (by decide : (-1 : Int64) < (0 : Int64)))).2.1) ?_
              have hz170 : (3 : Int32) < z_q1 := own_in1 (by decide) hc169
              refine own_aloadN X165 hx (hb hby d3_68) (pc' := 69) rfl rfl rfl ?_
              refine own_getF X165 hx hZ hown (hw _ (List.mem_of_getElem? (i := 11) rfl)) Via.refl e165 F_bytes_q1 (hb hby d3_69) (pc' := 72) rfl (fun T171 X171 e171 => ?_)
              refine own_iload X171 hx (hb hby d3_72) (pc' := 74) rfl rfl ?_
              obtain ⟨cl172, Ar172, qa172, S172, M172, H172, G172⟩ := id A_w_bytes_q1
              have hin172 : ¬ ((3 : Int32) < 0 ∨ cl172.slots.size ≤ ((3 : Int32)).toNatClampNeg) := inb_of S172 ⟨by decide, hz170⟩
              refine own_st ?_ (fun t k => X171.baloadBytes hx (j := (3 : Int32)) (v := (.int w3_w_bytes_q1)) (by rw [e171]; exact Ar172.1) (State.isArrayOf_alike hZ.alike Ar172.2.1) Ar172.2.2 hin172 (Has.at H172 hin172 rfl) (g := (mkF m 74 #[.val (.ref q1), .val (.int q2), .val (.long q3), .second, .val (.int (1 : Int32)), .val (.long (z_q1.toInt64)), .second, .val (.long (-1 : Int64)), .second, .val (.int (3 : Int32))] [(.int (3 : Int32)), (.ref w_bytes_q1)])) rfl rfl (hb hby d3_74) t k)
              show own_Fin _ _ _ _ T171 (mkF m 75 #[.val (.ref q1), .val (.int q2), .val (.long q3), .second, .val (.int (1 : Int32)), .val (.long (z_q1.toInt64)), .second, .val (.long (-1 : Int64)), .second, .val (.int (3 : Int32))] [(.int w3_w_bytes_q1)])
              refine own_sipush X171 hx (hb hby d3_75) (pc' := 78) rfl (v := (255 : Int32)) rfl ?_
              refine own_iand X171 hx (hb hby d3_78) (pc' := 79) rfl ?_
              refine own_iloadN X171 hx (hb hby d3_79) (pc' := 80) rfl rfl ?_
              by_cases hc173 : (w3_w_bytes_q1 &&& (255 : Int32)) = q2
              · refine own_icmpNo X171 hx (hb hby d3_80) (pc' := 83) rfl (teq hc173).2 ?_
                refine own_iload X171 hx (hb hby d3_83) (pc' := 85) rfl rfl ?_
                refine own_iload X171 hx (hb hby d3_85) (pc' := 87) rfl rfl ?_
                refine own_isub X171 hx (hb hby d3_87) (pc' := 88) rfl ?_
                show own_Fin _ _ _ _ T171 (mkF m 88 #[.val (.ref q1), .val (.int q2), .val (.long q3), .second, .val (.int (1 : Int32)), .val (.long (z_q1.toInt64)), .second, .val (.long (-1 : Int64)), .second, .val (.int (3 : Int32))] [(.int (2 : Int32))])
                refine own_i2l X171 hx (hb hby d3_88) (pc' := 89) rfl ?_
                show own_Fin _ _ _ _ T171 (mkF m 89 #[.val (.ref q1), .val (.int q2), .val (.long q3), .second, .val (.int (1 : Int32)), .val (.long (z_q1.toInt64)), .second, .val (.long (-1 : Int64)), .second, .val (.int (3 : Int32))] [(.long (2 : Int64))])
                refine own_lstore X171 hx (hb hby d3_89) (pc' := 91) rfl (Ls' := #[.val (.ref q1), .val (.int q2), .val (.long q3), .second, .val (.int (1 : Int32)), .val (.long (z_q1.toInt64)), .second, .val (.long (2 : Int64)), .second, .val (.int (3 : Int32))]) rfl ?_
                refine own_iinc X171 hx (hb hby d3_91) (pc' := 94) rfl (Ls' := #[.val (.ref q1), .val (.int q2), .val (.long q3), .second, .val (.int (1 : Int32)), .val (.long (z_q1.toInt64)), .second, .val (.long (2 : Int64)), .second, .val (.int (4 : Int32))]) rfl rfl ?_
                refine own_goto X171 hx (hb hby d3_94) (pc' := 52) (by decide) (by decide) ?_
                refine own_iload X171 hx (hb hby d3_52) (pc' := 54) rfl rfl ?_
                refine own_i2l X171 hx (hb hby d3_54) (pc' := 55) rfl ?_
                show own_Fin _ _ _ _ T171 (mkF m 55 #[.val (.ref q1), .val (.int q2), .val (.long q3), .second, .val (.int (1 : Int32)), .val (.long (z_q1.toInt64)), .second, .val (.long (2 : Int64)), .second, .val (.int (4 : Int32))] [(.long (4 : Int64))])
                refine own_lload X171 hx (hb hby d3_55) (pc' := 57) rfl rfl ?_
                refine own_lcmp X171 hx (hb hby d3_57) (pc' := 58) rfl ?_
                refine own_ifYes X171 hx (hb hby d3_58) ((if0 _ _).trans (flt (mt own_lc_lt.mp hE)).2.1) (pc' := 97) (by decide) (by decide) ?_
                refine own_lload X171 hx (hb hby d3_97) (pc' := 99) rfl rfl ?_
                refine own_retJ X171 hx hret hlk (hb hby d3_99) (by decide) (by decide) ?_
                show own_P _ _ _ _ T171.heap _
                exact ⟨(congrArg some (congrArg Value.long (show (2 : Int64) = (own_f3s1 q2 q3 z_q1 w0_w_bytes_q1 w1_w_bytes_q1 w2_w_bytes_q1 w3_w_bytes_q1) from by rw [own_f3s1, if_neg hc137, if_pos hc157, if_neg hc161, if_pos hc163, if_neg hc167, if_pos hc169, if_pos hc173]))), N0, e171⟩
              · refine own_icmpYes X171 hx (hb hby d3_80) (feq hc173).2 (pc' := 91) (by decide) (by decide) ?_
                refine own_iinc X171 hx (hb hby d3_91) (pc' := 94) rfl (Ls' := #[.val (.ref q1), .val (.int q2), .val (.long q3), .second, .val (.int (1 : Int32)), .val (.long (z_q1.toInt64)), .second, .val (.long (-1 : Int64)), .second, .val (.int (4 : Int32))]) rfl rfl ?_
                refine own_goto X171 hx (hb hby d3_94) (pc' := 52) (by decide) (by decide) ?_
                refine own_iload X171 hx (hb hby d3_52) (pc' := 54) rfl rfl ?_
                refine own_i2l X171 hx (hb hby d3_54) (pc' := 55) rfl ?_
                show own_Fin _ _ _ _ T171 (mkF m 55 #[.val (.ref q1), .val (.int q2), .val (.long q3), .second, .val (.int (1 : Int32)), .val (.long (z_q1.toInt64)), .second, .val (.long (-1 : Int64)), .second, .val (.int (4 : Int32))] [(.long (4 : Int64))])
                refine own_lload X171 hx (hb hby d3_55) (pc' := 57) rfl rfl ?_
                refine own_lcmp X171 hx (hb hby d3_57) (pc' := 58) rfl ?_
                refine own_ifYes X171 hx (hb hby d3_58) ((if0 _ _).trans (flt (mt own_lc_lt.mp hE)).2.1) (pc' := 97) (by decide) (by decide) ?_
                refine own_lload X171 hx (hb hby d3_97) (pc' := 99) rfl rfl ?_
                refine own_retJ X171 hx hret hlk (hb hby d3_99) (by decide) (by decide) ?_
                show own_P _ _ _ _ T171.heap _
                exact ⟨(congrArg some (congrArg Value.long (show (-1 : Int64) = (own_f3s1 q2 q3 z_q1 w0_w_bytes_q1 w1_w_bytes_q1 w2_w_bytes_q1 w3_w_bytes_q1) from by rw [own_f3s1, if_neg hc137, if_pos hc157, if_neg hc161, if_pos hc163, if_neg hc167, if_pos hc169, if_neg hc173]))), N0, e171⟩
            · refine own_ifYes X165 hx (hb hby d3_58) ((if0 _ _).trans (flt (mt own_lc_lt.mp hc169)).2.1) (pc' := 97) (by decide) (by decide) ?_
              refine own_lload X165 hx (hb hby d3_97) (pc' := 99) rfl rfl ?_
              refine own_retJ X165 hx hret hlk (hb hby d3_99) (by decide) (by decide) ?_
              show own_P _ _ _ _ T165.heap _
              exact ⟨(congrArg some (congrArg Value.long (show (-1 : Int64) = (own_f3s1 q2 q3 z_q1 w0_w_bytes_q1 w1_w_bytes_q1 w2_w_bytes_q1 w3_w_bytes_q1) from by rw [own_f3s1, if_neg hc137, if_pos hc157, if_neg hc161, if_pos hc163, if_neg hc167, if_neg hc169]))), N0, e165⟩
        · refine own_ifYes X159 hx (hb hby d3_58) ((if0 _ _).trans (flt (mt own_lc_lt.mp hc163)).2.1) (pc' := 97) (by decide) (by decide) ?_
          refine own_lload X159 hx (hb hby d3_97) (pc' := 99) rfl rfl ?_
          refine own_retJ X159 hx hret hlk (hb hby d3_99) (by decide) (by decide) ?_
          show own_P _ _ _ _ T159.heap _
          exact ⟨(congrArg some (congrArg Value.long (show (-1 : Int64) = (own_f3s1 q2 q3 z_q1 w0_w_bytes_q1 w1_w_bytes_q1 w2_w_bytes_q1 w3_w_bytes_q1) from by rw [own_f3s1, if_neg hc137, if_pos hc157, if_neg hc161, if_neg hc163]))), N0, e159⟩
    · refine own_ifYes X155 hx (hb hby d3_58) ((if0 _ _).trans (flt (mt own_lc_lt.mp hc157)).2.1) (pc' := 97) (by decide) (by decide) ?_
      refine own_lload X155 hx (hb hby d3_97) (pc' := 99) rfl rfl ?_
      refine own_retJ X155 hx hret hlk (hb hby d3_99) (by decide) (by decide) ?_
      show own_P _ _ _ _ T155.heap _
      exact ⟨(congrArg some (congrArg Value.long (show (-1 : Int64) = (own_f3s1 q2 q3 z_q1 w0_w_bytes_q1 w1_w_bytes_q1 w2_w_bytes_q1 w3_w_bytes_q1) from by rw [own_f3s1, if_neg hc137, if_neg hc157]))), N0, e155⟩
theorem ef_3s1 (m : MethodId) (q1 : Addr) (q2 : Int32) (q3 : Int64) : entryFrame m #[(.ref q1), (.int q2), (.long q3)] 10 = mkF m 0 #[.val (.ref q1), .val (.int q2), .val (.long q3), .second, .unset, .unset, .unset, .unset, .unset, .unset] [] := by first | (simp [entryFrame, mkF, argsToLocals, Value.category]; done) | rfl
set_option maxRecDepth 65536 in
set_option maxHeartbeats 40000000 in
theorem rm3s1 (l : Launch) (Z : State) (a0 : Array Value) (hw : ∀ d ∈ tables_1, d.before a0 Z = true) (ws : List Jvm.Cond) (q1 : Addr) (q2 : Int32) (q3 : Int64) (w_bytes_q1 : Addr) (z_q1 : Int32) (kc_w_bytes_q1 : ClassId) (w0_w_bytes_q1 : Int32) (w1_w_bytes_q1 : Int32) (w2_w_bytes_q1 : Int32) (w3_w_bytes_q1 : Int32) (h0 : Heap) (n0 : Nat) (Z0 : n0 ≤ h0.size) (E_q1 : Exa Z h0 q1 "com/example/typewire/typewire/packet/BitInput") (F_bytes_q1 : Fld Z h0 q1 "com/example/typewire/typewire/packet/BitInput" "bytes" "[B" (.ref w_bytes_q1)) (F_position_q1 : Fld Z h0 q1 "com/example/typewire/typewire/packet/BitInput" "position" "J" (.long (8 : Int64))) (A_w_bytes_q1 : Arv Z h0 w_bytes_q1 kc_w_bytes_q1 .byte z_q1 [(.int w0_w_bytes_q1), (.int w1_w_bytes_q1), (.int w2_w_bytes_q1), (.int w3_w_bytes_q1)] (.int (0 : Int32))) (hz4 : 0 ≤ z_q1.toInt ∧ z_q1.toInt ≤ 4) :
    MetFree l (⟨"com/example/typewire/typewire/packet/BitInput", "bytesBefore", "(IJ)J"⟩ : MethodName) (head1 (Jvm.Cond.code (⟨"com/example/typewire/typewire/packet/BitInput", "bytesBefore", "(IJ)J"⟩ : MethodName) prog_12_method_5_code 10 (some .long) :: ws) ({ frames := 0, cells := 0, slots := 0, locals := 0 } : Room)) (fun a U => a = #[(.ref q1), (.int q2), (.long q3)] ∧ Z.Warmed39 U.vm ∧ U.heap = h0) (fun _ _ _ _ _ => True) (fun _ U o U' => ∃ v L, o = .returned v ∧ (own_P h0 n0 (some (.long (own_f3s1 q2 q3 z_q1 w0_w_bytes_q1 w1_w_bytes_q1 w2_w_bytes_q1 w3_w_bytes_q1)))) v U'.heap L ∧ FrameEnd U o U' L ({ frames := 0, cells := 0, slots := 0, locals := 0 } : Room).cells ({ frames := 0, cells := 0, slots := 0, locals := 0 } : Room).slots) := by
  refine MetFree.of_bodySF (plainFor_of_name pn_3) hisR ?_
  intro p e s m args below meth c s₁ Bd hml0 hP hK
  obtain ⟨rfl, hZ, hh⟩ := hP
  have hown : s.vm.findClass "com/example/typewire/typewire/packet/BitInput" = some m.cls := findClass_of_methodNamed Bd.named
  have hnm := (name_of_methodNamed Bd.named Bd.method).1
  have X0 : Stand p l e ({ frames := 0, cells := 0, slots := 0, locals := 0 } : Room) s m #[(.ref q1), (.int q2), (.long q3)] below meth c s₁ [] 0 0 := Stand.of_body Bd
  have e0 : s₁.heap = h0 := by rw [← hh, Bd.state]; rfl
  have H := sg3s1_0 l hw Bd.exec hZ Bd.bytes hml0 hown hnm Bd.returns Bd.notSynchronized q1 q2 q3 w_bytes_q1 z_q1 kc_w_bytes_q1 w0_w_bytes_q1 w1_w_bytes_q1 w2_w_bytes_q1 w3_w_bytes_q1 Z0 X0 (Fr.nil n0) e0 E_q1 F_bytes_q1 F_position_q1 A_w_bytes_q1 hz4
  obtain ⟨t, h1, h2, o, h3, h4⟩ := H
  exact ⟨t, o, castTop (ef_3s1 m q1 q2 q3) h1, h2, h3, h4⟩
def own_f3s2 (q2 : Int32) (q3 : Int64) (z_q1 : Int32) (w0_w_bytes_q1 : Int32) (w1_w_bytes_q1 : Int32) (w2_w_bytes_q1 : Int32) (w3_w_bytes_q1 : Int32) : Int64 :=
  if q3 < ((z_q1 - (2 : Int32)).toInt64) then (if (2 : Int64) < (((2 : Int64) + q3) + (1 : Int64)) then (if (w2_w_bytes_q1 &&& (255 : Int32)) = q2 then (if (3 : Int64) < (((2 : Int64) + q3) + (1 : Int64)) then (0 : Int64) else
    (0 : Int64)) else
    if (3 : Int64) < (((2 : Int64) + q3) + (1 : Int64)) then (if (w3_w_bytes_q1 &&& (255 : Int32)) = q2 then (1 : Int64) else
    (-1 : Int64)) else
    (-1 : Int64)) else
    (-1 : Int64)) else
  if (2 : Int64) < (z_q1.toInt64) then (if (w2_w_bytes_q1 &&& (255 : Int32)) = q2 then (if (3 : Int64) < (z_q1.toInt64) then (0 : Int64) else
    (0 : Int64)) else
    if (3 : Int64) < (z_q1.toInt64) then (if (w3_w_bytes_q1 &&& (255 : Int32)) = q2 then (1 : Int64) else
    (-1 : Int64)) else
    (-1 : Int64)) else
  (-1 : Int64)
set_option maxRecDepth 65536 in
set_option maxHeartbeats 40000000 in
theorem sg3s2_0 {p : Program} (l : Launch) {e : Env} {s : State} {m : MethodId} {args : Array Value} {below : List Frame} {meth : Method} {c : Code} {Z : State} {a0 : Array Value} (hw : ∀ d ∈ tables_1, d.before a0 Z = true) (hx : p.tables.exec = Jvm.exec) (hZ : Z.Warmed39 s.vm) (hby : c.code = prog_12_method_5_code) (hml : c.maxLocals = 10) (hown : s.vm.findClass "com/example/typewire/typewire/packet/BitInput" = some m.cls) (hnm : meth.name = "bytesBefore") (hret : meth.sig.returnType = (some .long)) (hlk : meth.locks = false) (q1 : Addr) (q2 : Int32) (q3 : Int64) (w_bytes_q1 : Addr) (z_q1 : Int32) (kc_w_bytes_q1 : ClassId) (w0_w_bytes_q1 : Int32) (w1_w_bytes_q1 : Int32) (w2_w_bytes_q1 : Int32) (w3_w_bytes_q1 : Int32) {h0 : Heap} {n0 : Nat} (Z0 : n0 ≤ h0.size) {T0 : State} {L0 : List Loc} (X0 : Stand p l e ({ frames := 0, cells := 0, slots := 0, locals := 0 } : Room) s m args below meth c T0 L0 0 0) (N0 : Fr n0 L0) (e0 : T0.heap = h0) (E_q1 : Exa Z h0 q1 "com/example/typewire/typewire/packet/BitInput") (F_bytes_q1 : Fld Z h0 q1 "com/example/typewire/typewire/packet/BitInput" "bytes" "[B" (.ref w_bytes_q1)) (F_position_q1 : Fld Z h0 q1 "com/example/typewire/typewire/packet/BitInput" "position" "J" (.long (16 : Int64))) (A_w_bytes_q1 : Arv Z h0 w_bytes_q1 kc_w_bytes_q1 .byte z_q1 [(.int w0_w_bytes_q1), (.int w1_w_bytes_q1), (.int w2_w_bytes_q1), (.int w3_w_bytes_q1)] (.int (0 : Int32))) (hz4 : 0 ≤ z_q1.toInt ∧ z_q1.toInt ≤ 4) :
    own_Fin p.tables e below (own_End below s (own_P h0 n0 (some (.long (own_f3s2 q2 q3 z_q1 w0_w_bytes_q1 w1_w_bytes_q1 w2_w_bytes_q1 w3_w_bytes_q1)))) 0 0) T0 (mkF m 0 #[.val (.ref q1), .val (.int q2), .val (.long q3), .second, .unset, .unset, .unset, .unset, .unset, .unset] []) := by
  refine own_aloadN X0 hx (hb hby d3_0) (pc' := 1) rfl rfl rfl ?_
  refine own_getF X0 hx hZ hown (hw _ (List.mem_of_getElem? (i := 18) rfl)) Via.refl e0 F_position_q1 (hb hby d3_1) (pc' := 4) rfl (fun T174 X174 e174 => ?_)
  refine own_ldc2Long X174 hx hZ hown (hw _ (List.mem_of_getElem? (i := 20) rfl)) (hb hby d3_4) (pc' := 7) rfl ?_
  refine own_ldiv X174 hx (hb hby d3_7) (pc' := 8) rfl (by decide) ?_
  show own_Fin _ _ _ _ T174 (mkF m 8 #[.val (.ref q1), .val (.int q2), .val (.long q3), .second, .unset, .unset, .unset, .unset, .unset, .unset] [(.long (2 : Int64))])
  refine own_l2i X174 hx (hb hby d3_8) (pc' := 9) rfl ?_
  show own_Fin _ _ _ _ T174 (mkF m 9 #[.val (.ref q1), .val (.int q2), .val (.long q3), .second, .unset, .unset, .unset, .unset, .unset, .unset] [(.int (2 : Int32))])
  refine own_istore X174 hx (hb hby d3_9) (pc' := 11) rfl (Ls' := #[.val (.ref q1), .val (.int q2), .val (.long q3), .second, .val (.int (2 : Int32)), .unset, .unset, .unset, .unset, .unset]) rfl ?_
  refine own_lloadN X174 hx (hb hby d3_11) (pc' := 12) rfl rfl ?_
  refine own_aloadN X174 hx (hb hby d3_12) (pc' := 13) rfl rfl rfl ?_
  refine own_getF X174 hx hZ hown (hw _ (List.mem_of_getElem? (i := 11) rfl)) Via.refl e174 F_bytes_q1 (hb hby d3_13) (pc' := 16) rfl (fun T175 X175 e175 => ?_)
  obtain ⟨cl176, Ar176, qa176, S176, M176, H176, G176⟩ := id A_w_bytes_q1
  refine own_st ?_ (fun t k => X175.arraylength hx (by rw [e175]; exact Ar176.1) (State.isArrayOf_alike hZ.alike Ar176.2.1) (g := (mkF m 16 #[.val (.ref q1), .val (.int q2), .val (.long q3), .second, .val (.int (2 : Int32)), .unset, .unset, .unset, .unset, .unset] [(.ref w_bytes_q1), (.long q3)])) rfl rfl (hb hby d3_16) t k)
  rw [len_of S176 M176]
  show own_Fin _ _ _ _ T175 (mkF m 17 #[.val (.ref q1), .val (.int q2), .val (.long q3), .second, .val (.int (2 : Int32)), .unset, .unset, .unset, .unset, .unset] [(.int z_q1), (.long q3)])
  refine own_iload X175 hx (hb hby d3_17) (pc' := 19) rfl rfl ?_
  refine own_isub X175 hx (hb hby d3_19) (pc' := 20) rfl ?_
  refine own_i2l X175 hx (hb hby d3_20) (pc' := 21) rfl ?_
  refine own_lcmp X175 hx (hb hby d3_21) (pc' := 22) rfl ?_
  by_cases hc177 : q3 < ((z_q1 - (2 : Int32)).toInt64)
  · refine own_ifNo X175 hx (hb hby d3_22) (pc' := 25) rfl ((if0 _ _).trans (tlt (own_lc_lt.mpr hc177)).2.1) ?_
    refine own_iload X175 hx (hb hby d3_25) (pc' := 27) rfl rfl ?_
    refine own_i2l X175 hx (hb hby d3_27) (pc' := 28) rfl ?_
    show own_Fin _ _ _ _ T175 (mkF m 28 #[.val (.ref q1), .val (.int q2), .val (.long q3), .second, .val (.int (2 : Int32)), .unset, .unset, .unset, .unset, .unset] [(.long (2 : Int64))])
    refine own_lloadN X175 hx (hb hby d3_28) (pc' := 29) rfl rfl ?_
    refine own_ladd X175 hx (hb hby d3_29) (pc' := 30) rfl ?_
    refine own_lconst X175 hx (hb hby d3_30) (pc' := 31) rfl (v := (1 : Int64)) rfl ?_
    refine own_ladd X175 hx (hb hby d3_31) (pc' := 32) rfl ?_
    refine own_goto X175 hx (hb hby d3_32) (pc' := 41) (by decide) (by decide) ?_
    refine own_lstore X175 hx (hb hby d3_41) (pc' := 43) rfl (Ls' := #[.val (.ref q1), .val (.int q2), .val (.long q3), .second, .val (.int (2 : Int32)), .val (.long (((2 : Int64) + q3) + (1 : Int64))), .second, .unset, .unset, .unset]) rfl ?_
    have hE : ¬ ((4 : Int64) < (((2 : Int64) + q3) + (1 : Int64))) := own_out2 (k := (2 : Int32)) hz4 (by decide) hc177
    refine own_ldc2Long X175 hx hZ hown (hw _ (List.mem_of_getElem? (i := 21) rfl)) (hb hby d3_43) (pc' := 46) rfl ?_
    refine own_lstore X175 hx (hb hby d3_46) (pc' := 48) rfl (Ls' := #[.val (.ref q1), .val (.int q2), .val (.long q3), .second, .val (.int (2 : Int32)), .val (.long (((2 : Int64) + q3) + (1 : Int64))), .second, .val (.long (-1 : Int64)), .second, .unset]) rfl ?_
    refine own_iload X175 hx (hb hby d3_48) (pc' := 50) rfl rfl ?_
    refine own_istore X175 hx (hb hby d3_50) (pc' := 52) rfl (Ls' := #[.val (.ref q1), .val (.int q2), .val (.long q3), .second, .val (.int (2 : Int32)), .val (.long (((2 : Int64) + q3) + (1 : Int64))), .second, .val (.long (-1 : Int64)), .second, .val (.int (2 : Int32))]) rfl ?_
    refine own_iload X175 hx (hb hby d3_52) (pc' := 54) rfl rfl ?_
    refine own_i2l X175 hx (hb hby d3_54) (pc' := 55) rfl ?_
    show own_Fin _ _ _ _ T175 (mkF m 55 #[.val (.ref q1), .val (.int q2), .val (.long q3), .second, .val (.int (2 : Int32)), .val (.long (((2 : Int64) + q3) + (1 : Int64))), .second, .val (.long (-1 : Int64)), .second, .val (.int (2 : Int32))] [(.long (2 : Int64))])
    refine own_lload X175 hx (hb hby d3_55) (pc' := 57) rfl rfl ?_
    refine own_lcmp X175 hx (hb hby d3_57) (pc' := 58) rfl ?_
    by_cases hc178 : (2 : Int64) < (((2 : Int64) + q3) + (1 : Int64))
    · refine own_ifNo X175 hx (hb hby d3_58) (pc' := 61) rfl ((if0 _ _).trans (tlt (own_lc_lt.mpr hc178)).2.1) ?_
      refine own_lload X175 hx (hb hby d3_61) (pc' := 63) rfl rfl ?_
      refine own_lconst X175 hx (hb hby d3_63) (pc' := 64) rfl (v := (0 : Int64)) rfl ?_
      refine own_lcmp X175 hx (hb hby d3_64) (pc' := 65) rfl ?_
      refine own_ifNo X175 hx (hb hby d3_65) (pc' := 68) rfl ((if0 _ _).trans (tlt (own_lc_lt.mpr (by decide : (-1 : Int64) < (0 : Int64)))).2.1) ?_
      have hz179 : (2 : Int32) < z_q1 := own_in2 (k := (2 : Int32)) hz4 (by decide) hc177 hc178
      refine own_aloadN X175 hx (hb hby d3_68) (pc' := 69) rfl rfl rfl ?_
      refine own_getF X175 hx hZ hown (hw _ (List.mem_of_getElem? (i := 11) rfl)) Via.refl e175 F_bytes_q1 (hb hby d3_69) (pc' := 72) rfl (fun T180 X180 e180 => ?_)
      refine own_iload X180 hx (hb hby d3_72) (pc' := 74) rfl rfl ?_
      obtain ⟨cl181, Ar181, qa181, S181, M181, H181, G181⟩ := id A_w_bytes_q1
      have hin181 : ¬ ((2 : Int32) < 0 ∨ cl181.slots.size ≤ ((2 : Int32)).toNatClampNeg) := inb_of S181 ⟨by decide, hz179⟩
      refine own_st ?_ (fun t k => X180.baloadBytes hx (j := (2 : Int32)) (v := (.int w2_w_bytes_q1)) (by rw [e180]; exact Ar181.1) (State.isArrayOf_alike hZ.alike Ar181.2.1) Ar181.2.2 hin181 (Has.at H181 hin181 rfl) (g := (mkF m 74 #[.val (.ref q1), .val (.int q2), .val (.long q3), .second, .val (.int (2 : Int32)), .val (.long (((2 : Int64) + q3) + (1 : Int64))), .second, .val (.long (-1 : Int64)), .second, .val (.int (2 : Int32))] [(.int (2 : Int32)), (.ref w_bytes_q1)])) rfl rfl (hb hby d3_74) t k)
      show own_Fin _ _ _ _ T180 (mkF m 75 #[.val (.ref q1), .val (.int q2), .val (.long q3), .second, .val (.int (2 : Int32)), .val (.long (((2 : Int64) + q3) + (1 : Int64))), .second, .val (.long (-1 : Int64)), .second, .val (.int (2 : Int32))] [(.int w2_w_bytes_q1)])
      refine own_sipush X180 hx (hb hby d3_75) (pc' := 78) rfl (v := (255 : Int32)) rfl ?_
      refine own_iand X180 hx (hb hby d3_78) (pc' := 79) rfl ?_
      refine own_iloadN X180 hx (hb hby d3_79) (pc' := 80) rfl rfl ?_
      by_cases hc182 : (w2_w_bytes_q1 &&& (255 : Int32)) = q2
      · refine own_icmpNo X180 hx (hb hby d3_80) (pc' := 83) rfl (teq hc182).2 ?_
        refine own_iload X180 hx (hb hby d3_83) (pc' := 85) rfl rfl ?_
        refine own_iload X180 hx (hb hby d3_85) (pc' := 87) rfl rfl ?_
        refine own_isub X180 hx (hb hby d3_87) (pc' := 88) rfl ?_
        show own_Fin _ _ _ _ T180 (mkF m 88 #[.val (.ref q1), .val (.int q2), .val (.long q3), .second, .val (.int (2 : Int32)), .val (.long (((2 : Int64) + q3) + (1 : Int64))), .second, .val (.long (-1 : Int64)), .second, .val (.int (2 : Int32))] [(.int (0 : Int32))])
        refine own_i2l X180 hx (hb hby d3_88) (pc' := 89) rfl ?_
        show own_Fin _ _ _ _ T180 (mkF m 89 #[.val (.ref q1), .val (.int q2), .val (.long q3), .second, .val (.int (2 : Int32)), .val (.long (((2 : Int64) + q3) + (1 : Int64))), .second, .val (.long (-1 : Int64)), .second, .val (.int (2 : Int32))] [(.long (0 : Int64))])
        refine own_lstore X180 hx (hb hby d3_89) (pc' := 91) rfl (Ls' := #[.val (.ref q1), .val (.int q2), .val (.long q3), .second, .val (.int (2 : Int32)), .val (.long (((2 : Int64) + q3) + (1 : Int64))), .second, .val (.long (0 : Int64)), .second, .val (.int (2 : Int32))]) rfl ?_
        refine own_iinc X180 hx (hb hby d3_91) (pc' := 94) rfl (Ls' := #[.val (.ref q1), .val (.int q2), .val (.long q3), .second, .val (.int (2 : Int32)), .val (.long (((2 : Int64) + q3) + (1 : Int64))), .second, .val (.long (0 : Int64)), .second, .val (.int (3 : Int32))]) rfl rfl ?_
        refine own_goto X180 hx (hb hby d3_94) (pc' := 52) (by decide) (by decide) ?_
        refine own_iload X180 hx (hb hby d3_52) (pc' := 54) rfl rfl ?_
        refine own_i2l X180 hx (hb hby d3_54) (pc' := 55) rfl ?_
        show own_Fin _ _ _ _ T180 (mkF m 55 #[.val (.ref q1), .val (.int q2), .val (.long q3), .second, .val (.int (2 : Int32)), .val (.long (((2 : Int64) + q3) + (1 : Int64))), .second, .val (.long (0 : Int64)), .second, .val (.int (3 : Int32))] [(.long (3 : Int64))])
        refine own_lload X180 hx (hb hby d3_55) (pc' := 57) rfl rfl ?_
        refine own_lcmp X180 hx (hb hby d3_57) (pc' := 58) rfl ?_
        by_cases hc183 : (3 : Int64) < (((2 : Int64) + q3) + (1 : Int64))
        · refine own_ifNo X180 hx (hb hby d3_58) (pc' := 61) rfl ((if0 _ _).trans (tlt (own_lc_lt.mpr hc183)).2.1) ?_
          refine own_lload X180 hx (hb hby d3_61) (pc' := 63) rfl rfl ?_
          refine own_lconst X180 hx (hb hby d3_63) (pc' := 64) rfl (v := (0 : Int64)) rfl ?_
          refine own_lcmp X180 hx (hb hby d3_64) (pc' := 65) rfl ?_
          refine own_ifYes X180 hx (hb hby d3_65) ((if0 _ _).trans (flt (mt own_lc_lt.mp (by decide : ¬ ((0 : Int64) < (0 : Int64))))).2.1) (pc' := 97) (by decide) (by decide) ?_
          refine own_lload X180 hx (hb hby d3_97) (pc' := 99) rfl rfl ?_
          refine own_retJ X180 hx hret hlk (hb hby d3_99) (by decide) (by decide) ?_
          show own_P _ _ _ _ T180.heap _
          exact ⟨(congrArg some (congrArg Value.long (show (0 : Int64) = (own_f3s2 q2 q3 z_q1 w0_w_bytes_q1 w1_w_bytes_q1 w2_w_bytes_q1 w3_w_bytes_q1) from by rw [own_f3s2, if_pos hc177, if_pos hc178, if_pos hc182, if_pos hc183]))), N0, e180⟩
        · refine own_ifYes X180 hx (hb hby d3_58) ((if0 _ _).trans (flt (mt own_lc_lt.mp hc183)).2.1) (pc' := 97) (by decide) (by decide) ?_
          refine own_lload X180 hx (hb hby d3_97) (pc' := 99) rfl rfl ?_
          refine own_retJ X180 hx hret hlk (hb hby d3_99) (by decide) (by decide) ?_
          show own_P _ _ _ _ T180.heap _
          exact ⟨(congrArg some (congrArg Value.long (show (0 : Int64) = (own_f3s2 q2 q3 z_q1 w0_w_bytes_q1 w1_w_bytes_q1 w2_w_bytes_q1 w3_w_bytes_q1) from by rw [own_f3s2, if_pos hc177, if_pos hc178, if_pos hc182, if_neg hc183]))), N0, e180⟩
      · refine own_icmpYes X180 hx (hb hby d3_80) (feq hc182).2 (pc' := 91) (by decide) (by decide) ?_
        refine own_iinc X180 hx (hb hby d3_91) (pc' := 94) rfl (Ls' := #[.val (.ref q1), .val (.int q2), .val (.long q3), .second, .val (.int (2 : Int32)), .val (.long (((2 : Int64) + q3) + (1 : Int64))), .second, .val (.long (-1 : Int64)), .second, .val (.int (3 : Int32))]) rfl rfl ?_
        refine own_goto X180 hx (hb hby d3_94) (pc' := 52) (by decide) (by decide) ?_
        refine own_iload X180 hx (hb hby d3_52) (pc' := 54) rfl rfl ?_
        refine own_i2l X180 hx (hb hby d3_54) (pc' := 55) rfl ?_
        show own_Fin _ _ _ _ T180 (mkF m 55 #[.val (.ref q1), .val (.int q2), .val (.long q3), .second, .val (.int (2 : Int32)), .val (.long (((2 : Int64) + q3) + (1 : Int64))), .second, .val (.long (-1 : Int64)), .second, .val (.int (3 : Int32))] [(.long (3 : Int64))])
        refine own_lload X180 hx (hb hby d3_55) (pc' := 57) rfl rfl ?_
        refine own_lcmp X180 hx (hb hby d3_57) (pc' := 58) rfl ?_
        by_cases hc184 : (3 : Int64) < (((2 : Int64) + q3) + (1 : Int64))
        · refine own_ifNo X180 hx (hb hby d3_58) (pc' := 61) rfl ((if0 _ _).trans (tlt (own_lc_lt.mpr hc184)).2.1) ?_
          refine own_lload X180 hx (hb hby d3_61) (pc' := 63) rfl rfl ?_
          refine own_lconst X180 hx (hb hby d3_63) (pc' := 64) rfl (v := (0 : Int64)) rfl ?_
          refine own_lcmp X180 hx (hb hby d3_64) (pc' := 65) rfl ?_
          refine own_ifNo X180 hx (hb hby d3_65) (pc' := 68) rfl ((if0 _ _).trans (tlt (own_lc_lt.mpr (by decide : (-1 : Int64) < (0 : Int64)))).2.1) ?_
          have hz185 : (3 : Int32) < z_q1 := own_in2 (k := (2 : Int32)) hz4 (by decide) hc177 hc184
          refine own_aloadN X180 hx (hb hby d3_68) (pc' := 69) rfl rfl rfl ?_
          refine own_getF X180 hx hZ hown (hw _ (List.mem_of_getElem? (i := 11) rfl)) Via.refl e180 F_bytes_q1 (hb hby d3_69) (pc' := 72) rfl (fun T186 X186 e186 => ?_)
          refine own_iload X186 hx (hb hby d3_72) (pc' := 74) rfl rfl ?_
          obtain ⟨cl187, Ar187, qa187, S187, M187, H187, G187⟩ := id A_w_bytes_q1
          have hin187 : ¬ ((3 : Int32) < 0 ∨ cl187.slots.size ≤ ((3 : Int32)).toNatClampNeg) := inb_of S187 ⟨by decide, hz185⟩
          refine own_st ?_ (fun t k => X186.baloadBytes hx (j := (3 : Int32)) (v := (.int w3_w_bytes_q1)) (by rw [e186]; exact Ar187.1) (State.isArrayOf_alike hZ.alike Ar187.2.1) Ar187.2.2 hin187 (Has.at H187 hin187 rfl) (g := (mkF m 74 #[.val (.ref q1), .val (.int q2), .val (.long q3), .second, .val (.int (2 : Int32)), .val (.long (((2 : Int64) + q3) + (1 : Int64))), .second, .val (.long (-1 : Int64)), .second, .val (.int (3 : Int32))] [(.int (3 : Int32)), (.ref w_bytes_q1)])) rfl rfl (hb hby d3_74) t k)
          show own_Fin _ _ _ _ T186 (mkF m 75 #[.val (.ref q1), .val (.int q2), .val (.long q3), .second, .val (.int (2 : Int32)), .val (.long (((2 : Int64) + q3) + (1 : Int64))), .second, .val (.long (-1 : Int64)), .second, .val (.int (3 : Int32))] [(.int w3_w_bytes_q1)])
          refine own_sipush X186 hx (hb hby d3_75) (pc' := 78) rfl (v := (255 : Int32)) rfl ?_
          refine own_iand X186 hx (hb hby d3_78) (pc' := 79) rfl ?_
          refine own_iloadN X186 hx (hb hby d3_79) (pc' := 80) rfl rfl ?_
          by_cases hc188 : (w3_w_bytes_q1 &&& (255 : Int32)) = q2
          · refine own_icmpNo X186 hx (hb hby d3_80) (pc' := 83) rfl (teq hc188).2 ?_
            refine own_iload X186 hx (hb hby d3_83) (pc' := 85) rfl rfl ?_
            refine own_iload X186 hx (hb hby d3_85) (pc' := 87) rfl rfl ?_
            refine own_isub X186 hx (hb hby d3_87) (pc' := 88) rfl ?_
            show own_Fin _ _ _ _ T186 (mkF m 88 #[.val (.ref q1), .val (.int q2), .val (.long q3), .second, .val (.int (2 : Int32)), .val (.long (((2 : Int64) + q3) + (1 : Int64))), .second, .val (.long (-1 : Int64)), .second, .val (.int (3 : Int32))] [(.int (1 : Int32))])
            refine own_i2l X186 hx (hb hby d3_88) (pc' := 89) rfl ?_
            show own_Fin _ _ _ _ T186 (mkF m 89 #[.val (.ref q1), .val (.int q2), .val (.long q3), .second, .val (.int (2 : Int32)), .val (.long (((2 : Int64) + q3) + (1 : Int64))), .second, .val (.long (-1 : Int64)), .second, .val (.int (3 : Int32))] [(.long (1 : Int64))])
            refine own_lstore X186 hx (hb hby d3_89) (pc' := 91) rfl (Ls' := #[.val (.ref q1), .val (.int q2), .val (.long q3), .second, .val (.int (2 : Int32)), .val (.long (((2 : Int64) + q3) + (1 : Int64))), .second, .val (.long (1 : Int64)), .second, .val (.int (3 : Int32))]) rfl ?_
            refine own_iinc X186 hx (hb hby d3_91) (pc' := 94) rfl (Ls' := #[.val (.ref q1), .val (.int q2), .val (.long q3), .second, .val (.int (2 : Int32)), .val (.long (((2 : Int64) + q3) + (1 : Int64))), .second, .val (.long (1 : Int64)), .second, .val (.int (4 : Int32))]) rfl rfl ?_
            refine own_goto X186 hx (hb hby d3_94) (pc' := 52) (by decide) (by decide) ?_
            refine own_iload X186 hx (hb hby d3_52) (pc' := 54) rfl rfl ?_
            refine own_i2l X186 hx (hb hby d3_54) (pc' := 55) rfl ?_
            show own_Fin _ _ _ _ T186 (mkF m 55 #[.val (.ref q1), .val (.int q2), .val (.long q3), .second, .val (.int (2 : Int32)), .val (.long (((2 : Int64) + q3) + (1 : Int64))), .second, .val (.long (1 : Int64)), .second, .val (.int (4 : Int32))] [(.long (4 : Int64))])
            refine own_lload X186 hx (hb hby d3_55) (pc' := 57) rfl rfl ?_
            refine own_lcmp X186 hx (hb hby d3_57) (pc' := 58) rfl ?_
            refine own_ifYes X186 hx (hb hby d3_58) ((if0 _ _).trans (flt (mt own_lc_lt.mp hE)).2.1) (pc' := 97) (by decide) (by decide) ?_
            refine own_lload X186 hx (hb hby d3_97) (pc' := 99) rfl rfl ?_
            refine own_retJ X186 hx hret hlk (hb hby d3_99) (by decide) (by decide) ?_
            show own_P _ _ _ _ T186.heap _
            exact ⟨(congrArg some (congrArg Value.long (show (1 : Int64) = (own_f3s2 q2 q3 z_q1 w0_w_bytes_q1 w1_w_bytes_q1 w2_w_bytes_q1 w3_w_bytes_q1) from by rw [own_f3s2, if_pos hc177, if_pos hc178, if_neg hc182, if_pos hc184, if_pos hc188]))), N0, e186⟩
          · refine own_icmpYes X186 hx (hb hby d3_80) (feq hc188).2 (pc' := 91) (by decide) (by decide) ?_
            refine own_iinc X186 hx (hb hby d3_91) (pc' := 94) rfl (Ls' := #[.val (.ref q1), .val (.int q2), .val (.long q3), .second, .val (.int (2 : Int32)), .val (.long (((2 : Int64) + q3) + (1 : Int64))), .second, .val (.long (-1 : Int64)), .second, .val (.int (4 : Int32))]) rfl rfl ?_
            refine own_goto X186 hx (hb hby d3_94) (pc' := 52) (by decide) (by decide) ?_
            refine own_iload X186 hx (hb hby d3_52) (pc' := 54) rfl rfl ?_
            refine own_i2l X186 hx (hb hby d3_54) (pc' := 55) rfl ?_
            show own_Fin _ _ _ _ T186 (mkF m 55 #[.val (.ref q1), .val (.int q2), .val (.long q3), .second, .val (.int (2 : Int32)), .val (.long (((2 : Int64) + q3) + (1 : Int64))), .second, .val (.long (-1 : Int64)), .second, .val (.int (4 : Int32))] [(.long (4 : Int64))])
            refine own_lload X186 hx (hb hby d3_55) (pc' := 57) rfl rfl ?_
            refine own_lcmp X186 hx (hb hby d3_57) (pc' := 58) rfl ?_
            refine own_ifYes X186 hx (hb hby d3_58) ((if0 _ _).trans (flt (mt own_lc_lt.mp hE)).2.1) (pc' := 97) (by decide) (by decide) ?_
            refine own_lload X186 hx (hb hby d3_97) (pc' := 99) rfl rfl ?_
            refine own_retJ X186 hx hret hlk (hb hby d3_99) (by decide) (by decide) ?_
            show own_P _ _ _ _ T186.heap _
            exact ⟨(congrArg some (congrArg Value.long (show (-1 : Int64) = (own_f3s2 q2 q3 z_q1 w0_w_bytes_q1 w1_w_bytes_q1 w2_w_bytes_q1 w3_w_bytes_q1) from by rw [own_f3s2, if_pos hc177, if_pos hc178, if_neg hc182, if_pos hc184, if_neg hc188]))), N0, e186⟩
        · refine own_ifYes X180 hx (hb hby d3_58) ((if0 _ _).trans (flt (mt own_lc_lt.mp hc184)).2.1) (pc' := 97) (by decide) (by decide) ?_
          refine own_lload X180 hx (hb hby d3_97) (pc' := 99) rfl rfl ?_
          refine own_retJ X180 hx hret hlk (hb hby d3_99) (by decide) (by decide) ?_
          show own_P _ _ _ _ T180.heap _
          exact ⟨(congrArg some (congrArg Value.long (show (-1 : Int64) = (own_f3s2 q2 q3 z_q1 w0_w_bytes_q1 w1_w_bytes_q1 w2_w_bytes_q1 w3_w_bytes_q1) from by rw [own_f3s2, if_pos hc177, if_pos hc178, if_neg hc182, if_neg hc184]))), N0, e180⟩
    · refine own_ifYes X175 hx (hb hby d3_58) ((if0 _ _).trans (flt (mt own_lc_lt.mp hc178)).2.1) (pc' := 97) (by decide) (by decide) ?_
      refine own_lload X175 hx (hb hby d3_97) (pc' := 99) rfl rfl ?_
      refine own_retJ X175 hx hret hlk (hb hby d3_99) (by decide) (by decide) ?_
      show own_P _ _ _ _ T175.heap _
      exact ⟨(congrArg some (congrArg Value.long (show (-1 : Int64) = (own_f3s2 q2 q3 z_q1 w0_w_bytes_q1 w1_w_bytes_q1 w2_w_bytes_q1 w3_w_bytes_q1) from by rw [own_f3s2, if_pos hc177, if_neg hc178]))), N0, e175⟩
  · refine own_ifYes X175 hx (hb hby d3_22) ((if0 _ _).trans (flt (mt own_lc_lt.mp hc177)).2.1) (pc' := 35) (by decide) (by decide) ?_
    refine own_aloadN X175 hx (hb hby d3_35) (pc' := 36) rfl rfl rfl ?_
    refine own_getF X175 hx hZ hown (hw _ (List.mem_of_getElem? (i := 11) rfl)) Via.refl e175 F_bytes_q1 (hb hby d3_36) (pc' := 39) rfl (fun T189 X189 e189 => ?_)
    obtain ⟨cl190, Ar190, qa190, S190, M190, H190, G190⟩ := id A_w_bytes_q1
    refine own_st ?_ (fun t k => X189.arraylength hx (by rw [e189]; exact Ar190.1) (State.isArrayOf_alike hZ.alike Ar190.2.1) (g := (mkF m 39 #[.val (.ref q1), .val (.int q2), .val (.long q3), .second, .val (.int (2 : Int32)), .unset, .unset, .unset, .unset, .unset] [(.ref w_bytes_q1)])) rfl rfl (hb hby d3_39) t k)
    rw [len_of S190 M190]
    show own_Fin _ _ _ _ T189 (mkF m 40 #[.val (.ref q1), .val (.int q2), .val (.long q3), .second, .val (.int (2 : Int32)), .unset, .unset, .unset, .unset, .unset] [(.int z_q1)])
    refine own_i2l X189 hx (hb hby d3_40) (pc' := 41) rfl ?_
    refine own_lstore X189 hx (hb hby d3_41) (pc' := 43) rfl (Ls' := #[.val (.ref q1), .val (.int q2), .val (.long q3), .second, .val (.int (2 : Int32)), .val (.long (z_q1.toInt64)), .second, .unset, .unset, .unset]) rfl ?_
    have hE : ¬ ((4 : Int64) < (z_q1.toInt64)) := own_out1 hz4
    refine own_ldc2Long X189 hx hZ hown (hw _ (List.mem_of_getElem? (i := 21) rfl)) (hb hby d3_43) (pc' := 46) rfl ?_
    refine own_lstore X189 hx (hb hby d3_46) (pc' := 48) rfl (Ls' := #[.val (.ref q1), .val (.int q2), .val (.long q3), .second, .val (.int (2 : Int32)), .val (.long (z_q1.toInt64)), .second, .val (.long (-1 : Int64)), .second, .unset]) rfl ?_
    refine own_iload X189 hx (hb hby d3_48) (pc' := 50) rfl rfl ?_
    refine own_istore X189 hx (hb hby d3_50) (pc' := 52) rfl (Ls' := #[.val (.ref q1), .val (.int q2), .val (.long q3), .second, .val (.int (2 : Int32)), .val (.long (z_q1.toInt64)), .second, .val (.long (-1 : Int64)), .second, .val (.int (2 : Int32))]) rfl ?_
    refine own_iload X189 hx (hb hby d3_52) (pc' := 54) rfl rfl ?_
    refine own_i2l X189 hx (hb hby d3_54) (pc' := 55) rfl ?_
    show own_Fin _ _ _ _ T189 (mkF m 55 #[.val (.ref q1), .val (.int q2), .val (.long q3), .second, .val (.int (2 : Int32)), .val (.long (z_q1.toInt64)), .second, .val (.long (-1 : Int64)), .second, .val (.int (2 : Int32))] [(.long (2 : Int64))])
    refine own_lload X189 hx (hb hby d3_55) (pc' := 57) rfl rfl ?_
    refine own_lcmp X189 hx (hb hby d3_57) (pc' := 58) rfl ?_
    by_cases hc191 : (2 : Int64) < (z_q1.toInt64)
    · refine own_ifNo X189 hx (hb hby d3_58) (pc' := 61) rfl ((if0 _ _).trans (tlt (own_lc_lt.mpr hc191)).2.1) ?_
      refine own_lload X189 hx (hb hby d3_61) (pc' := 63) rfl rfl ?_
      refine own_lconst X189 hx (hb hby d3_63) (pc' := 64) rfl (v := (0 : Int64)) rfl ?_
      refine own_lcmp X189 hx (hb hby d3_64) (pc' := 65) rfl ?_
      refine own_ifNo X189 hx (hb hby d3_65) (pc' := 68) rfl ((if0 _ _).trans (tlt (own_lc_lt.mpr (by decide : (-1 : Int64) < (0 : Int64)))).2.1) ?_
      have hz192 : (2 : Int32) < z_q1 := own_in1 (by decide) hc191
      refine own_aloadN X189 hx (hb hby d3_68) (pc' := 69) rfl rfl rfl ?_
      refine own_getF X189 hx hZ hown (hw _ (List.mem_of_getElem? (i := 11) rfl)) Via.refl e189 F_bytes_q1 (hb hby d3_69) (pc' := 72) rfl (fun T193 X193 e193 => ?_)
      refine own_iload X193 hx (hb hby d3_72) (pc' := 74) rfl rfl ?_
      obtain ⟨cl194, Ar194, qa194, S194, M194, H194, G194⟩ := id A_w_bytes_q1
      have hin194 : ¬ ((2 : Int32) < 0 ∨ cl194.slots.size ≤ ((2 : Int32)).toNatClampNeg) := inb_of S194 ⟨by decide, hz192⟩
      refine own_st ?_ (fun t k => X193.baloadBytes hx (j := (2 : Int32)) (v := (.int w2_w_bytes_q1)) (by rw [e193]; exact Ar194.1) (State.isArrayOf_alike hZ.alike Ar194.2.1) Ar194.2.2 hin194 (Has.at H194 hin194 rfl) (g := (mkF m 74 #[.val (.ref q1), .val (.int q2), .val (.long q3), .second, .val (.int (2 : Int32)), .val (.long (z_q1.toInt64)), .second, .val (.long (-1 : Int64)), .second, .val (.int (2 : Int32))] [(.int (2 : Int32)), (.ref w_bytes_q1)])) rfl rfl (hb hby d3_74) t k)
      show own_Fin _ _ _ _ T193 (mkF m 75 #[.val (.ref q1), .val (.int q2), .val (.long q3), .second, .val (.int (2 : Int32)), .val (.long (z_q1.toInt64)), .second, .val (.long (-1 : Int64)), .second, .val (.int (2 : Int32))] [(.int w2_w_bytes_q1)])
      refine own_sipush X193 hx (hb hby d3_75) (pc' := 78) rfl (v := (255 : Int32)) rfl ?_
      refine own_iand X193 hx (hb hby d3_78) (pc' := 79) rfl ?_
      refine own_iloadN X193 hx (hb hby d3_79) (pc' := 80) rfl rfl ?_
      by_cases hc195 : (w2_w_bytes_q1 &&& (255 : Int32)) = q2
      · refine own_icmpNo X193 hx (hb hby d3_80) (pc' := 83) rfl (teq hc195).2 ?_
        refine own_iload X193 hx (hb hby d3_83) (pc' := 85) rfl rfl ?_
        refine own_iload X193 hx (hb hby d3_85) (pc' := 87) rfl rfl ?_
        refine own_isub X193 hx (hb hby d3_87) (pc' := 88) rfl ?_
        show own_Fin _ _ _ _ T193 (mkF m 88 #[.val (.ref q1), .val (.int q2), .val (.long q3), .second, .val (.int (2 : Int32)), .val (.long (z_q1.toInt64)), .second, .val (.long (-1 : Int64)), .second, .val (.int (2 : Int32))] [(.int (0 : Int32))])
        refine own_i2l X193 hx (hb hby d3_88) (pc' := 89) rfl ?_
        show own_Fin _ _ _ _ T193 (mkF m 89 #[.val (.ref q1), .val (.int q2), .val (.long q3), .second, .val (.int (2 : Int32)), .val (.long (z_q1.toInt64)), .second, .val (.long (-1 : Int64)), .second, .val (.int (2 : Int32))] [(.long (0 : Int64))])
        refine own_lstore X193 hx (hb hby d3_89) (pc' := 91) rfl (Ls' := #[.val (.ref q1), .val (.int q2), .val (.long q3), .second, .val (.int (2 : Int32)), .val (.long (z_q1.toInt64)), .second, .val (.long (0 : Int64)), .second, .val (.int (2 : Int32))]) rfl ?_
        refine own_iinc X193 hx (hb hby d3_91) (pc' := 94) rfl (Ls' := #[.val (.ref q1), .val (.int q2), .val (.long q3), .second, .val (.int (2 : Int32)), .val (.long (z_q1.toInt64)), .second, .val (.long (0 : Int64)), .second, .val (.int (3 : Int32))]) rfl rfl ?_
        refine own_goto X193 hx (hb hby d3_94) (pc' := 52) (by decide) (by decide) ?_
        refine own_iload X193 hx (hb hby d3_52) (pc' := 54) rfl rfl ?_
        refine own_i2l X193 hx (hb hby d3_54) (pc' := 55) rfl ?_
        show own_Fin _ _ _ _ T193 (mkF m 55 #[.val (.ref q1), .val (.int q2), .val (.long q3), .second, .val (.int (2 : Int32)), .val (.long (z_q1.toInt64)), .second, .val (.long (0 : Int64)), .second, .val (.int (3 : Int32))] [(.long (3 : Int64))])
        refine own_lload X193 hx (hb hby d3_55) (pc' := 57) rfl rfl ?_
        refine own_lcmp X193 hx (hb hby d3_57) (pc' := 58) rfl ?_
        by_cases hc196 : (3 : Int64) < (z_q1.toInt64)
        · refine own_ifNo X193 hx (hb hby d3_58) (pc' := 61) rfl ((if0 _ _).trans (tlt (own_lc_lt.mpr hc196)).2.1) ?_
          refine own_lload X193 hx (hb hby d3_61) (pc' := 63) rfl rfl ?_
          refine own_lconst X193 hx (hb hby d3_63) (pc' := 64) rfl (v := (0 : Int64)) rfl ?_
          refine own_lcmp X193 hx (hb hby d3_64) (pc' := 65) rfl ?_
          refine own_ifYes X193 hx (hb hby d3_65) ((if0 _ _).trans (flt (mt own_lc_lt.mp (by decide : ¬ ((0 : Int64) < (0 : Int64))))).2.1) (pc' := 97) (by decide) (by decide) ?_
          refine own_lload X193 hx (hb hby d3_97) (pc' := 99) rfl rfl ?_
          refine own_retJ X193 hx hret hlk (hb hby d3_99) (by decide) (by decide) ?_
          show own_P _ _ _ _ T193.heap _
          exact ⟨(congrArg some (congrArg Value.long (show (0 : Int64) = (own_f3s2 q2 q3 z_q1 w0_w_bytes_q1 w1_w_bytes_q1 w2_w_bytes_q1 w3_w_bytes_q1) from by rw [own_f3s2, if_neg hc177, if_pos hc191, if_pos hc195, if_pos hc196]))), N0, e193⟩
        · refine own_ifYes X193 hx (hb hby d3_58) ((if0 _ _).trans (flt (mt own_lc_lt.mp hc196)).2.1) (pc' := 97) (by decide) (by decide) ?_
          refine own_lload X193 hx (hb hby d3_97) (pc' := 99) rfl rfl ?_
          refine own_retJ X193 hx hret hlk (hb hby d3_99) (by decide) (by decide) ?_
          show own_P _ _ _ _ T193.heap _
          exact ⟨(congrArg some (congrArg Value.long (show (0 : Int64) = (own_f3s2 q2 q3 z_q1 w0_w_bytes_q1 w1_w_bytes_q1 w2_w_bytes_q1 w3_w_bytes_q1) from by rw [own_f3s2, if_neg hc177, if_pos hc191, if_pos hc195, if_neg hc196]))), N0, e193⟩
      · refine own_icmpYes X193 hx (hb hby d3_80) (feq hc195).2 (pc' := 91) (by decide) (by decide) ?_
        refine own_iinc X193 hx (hb hby d3_91) (pc' := 94) rfl (Ls' := #[.val (.ref q1), .val (.int q2), .val (.long q3), .second, .val (.int (2 : Int32)), .val (.long (z_q1.toInt64)), .second, .val (.long (-1 : Int64)), .second, .val (.int (3 : Int32))]) rfl rfl ?_
        refine own_goto X193 hx (hb hby d3_94) (pc' := 52) (by decide) (by decide) ?_
        refine own_iload X193 hx (hb hby d3_52) (pc' := 54) rfl rfl ?_
        refine own_i2l X193 hx (hb hby d3_54) (pc' := 55) rfl ?_
        show own_Fin _ _ _ _ T193 (mkF m 55 #[.val (.ref q1), .val (.int q2), .val (.long q3), .second, .val (.int (2 : Int32)), .val (.long (z_q1.toInt64)), .second, .val (.long (-1 : Int64)), .second, .val (.int (3 : Int32))] [(.long (3 : Int64))])
        refine own_lload X193 hx (hb hby d3_55) (pc' := 57) rfl rfl ?_
        refine own_lcmp X193 hx (hb hby d3_57) (pc' := 58) rfl ?_
        by_cases hc197 : (3 : Int64) < (z_q1.toInt64)
        · refine own_ifNo X193 hx (hb hby d3_58) (pc' := 61) rfl ((if0 _ _).trans (tlt (own_lc_lt.mpr hc197)).2.1) ?_
          refine own_lload X193 hx (hb hby d3_61) (pc' := 63) rfl rfl ?_
          refine own_lconst X193 hx (hb hby d3_63) (pc' := 64) rfl (v := (0 : Int64)) rfl ?_
          refine own_lcmp X193 hx (hb hby d3_64) (pc' := 65) rfl ?_
          refine own_ifNo X193 hx (hb hby d3_65) (pc' := 68) rfl ((if0 _ _).trans (tlt (own_lc_lt.mpr (by decide : (-1 : Int64) < (0 : Int64)))).2.1) ?_
          have hz198 : (3 : Int32) < z_q1 := own_in1 (by decide) hc197
          refine own_aloadN X193 hx (hb hby d3_68) (pc' := 69) rfl rfl rfl ?_
          refine own_getF X193 hx hZ hown (hw _ (List.mem_of_getElem? (i := 11) rfl)) Via.refl e193 F_bytes_q1 (hb hby d3_69) (pc' := 72) rfl (fun T199 X199 e199 => ?_)
          refine own_iload X199 hx (hb hby d3_72) (pc' := 74) rfl rfl ?_
          obtain ⟨cl200, Ar200, qa200, S200, M200, H200, G200⟩ := id A_w_bytes_q1
          have hin200 : ¬ ((3 : Int32) < 0 ∨ cl200.slots.size ≤ ((3 : Int32)).toNatClampNeg) := inb_of S200 ⟨by decide, hz198⟩
          refine own_st ?_ (fun t k => X199.baloadBytes hx (j := (3 : Int32)) (v := (.int w3_w_bytes_q1)) (by rw [e199]; exact Ar200.1) (State.isArrayOf_alike hZ.alike Ar200.2.1) Ar200.2.2 hin200 (Has.at H200 hin200 rfl) (g := (mkF m 74 #[.val (.ref q1), .val (.int q2), .val (.long q3), .second, .val (.int (2 : Int32)), .val (.long (z_q1.toInt64)), .second, .val (.long (-1 : Int64)), .second, .val (.int (3 : Int32))] [(.int (3 : Int32)), (.ref w_bytes_q1)])) rfl rfl (hb hby d3_74) t k)
          show own_Fin _ _ _ _ T199 (mkF m 75 #[.val (.ref q1), .val (.int q2), .val (.long q3), .second, .val (.int (2 : Int32)), .val (.long (z_q1.toInt64)), .second, .val (.long (-1 : Int64)), .second, .val (.int (3 : Int32))] [(.int w3_w_bytes_q1)])
          refine own_sipush X199 hx (hb hby d3_75) (pc' := 78) rfl (v := (255 : Int32)) rfl ?_
          refine own_iand X199 hx (hb hby d3_78) (pc' := 79) rfl ?_
          refine own_iloadN X199 hx (hb hby d3_79) (pc' := 80) rfl rfl ?_
          by_cases hc201 : (w3_w_bytes_q1 &&& (255 : Int32)) = q2
          · refine own_icmpNo X199 hx (hb hby d3_80) (pc' := 83) rfl (teq hc201).2 ?_
            refine own_iload X199 hx (hb hby d3_83) (pc' := 85) rfl rfl ?_
            refine own_iload X199 hx (hb hby d3_85) (pc' := 87) rfl rfl ?_
            refine own_isub X199 hx (hb hby d3_87) (pc' := 88) rfl ?_
            show own_Fin _ _ _ _ T199 (mkF m 88 #[.val (.ref q1), .val (.int q2), .val (.long q3), .second, .val (.int (2 : Int32)), .val (.long (z_q1.toInt64)), .second, .val (.long (-1 : Int64)), .second, .val (.int (3 : Int32))] [(.int (1 : Int32))])
            refine own_i2l X199 hx (hb hby d3_88) (pc' := 89) rfl ?_
            show own_Fin _ _ _ _ T199 (mkF m 89 #[.val (.ref q1), .val (.int q2), .val (.long q3), .second, .val (.int (2 : Int32)), .val (.long (z_q1.toInt64)), .second, .val (.long (-1 : Int64)), .second, .val (.int (3 : Int32))] [(.long (1 : Int64))])
            refine own_lstore X199 hx (hb hby d3_89) (pc' := 91) rfl (Ls' := #[.val (.ref q1), .val (.int q2), .val (.long q3), .second, .val (.int (2 : Int32)), .val (.long (z_q1.toInt64)), .second, .val (.long (1 : Int64)), .second, .val (.int (3 : Int32))]) rfl ?_
            refine own_iinc X199 hx (hb hby d3_91) (pc' := 94) rfl (Ls' := #[.val (.ref q1), .val (.int q2), .val (.long q3), .second, .val (.int (2 : Int32)), .val (.long (z_q1.toInt64)), .second, .val (.long (1 : Int64)), .second, .val (.int (4 : Int32))]) rfl rfl ?_
            refine own_goto X199 hx (hb hby d3_94) (pc' := 52) (by decide) (by decide) ?_
            refine own_iload X199 hx (hb hby d3_52) (pc' := 54) rfl rfl ?_
            refine own_i2l X199 hx (hb hby d3_54) (pc' := 55) rfl ?_
            show own_Fin _ _ _ _ T199 (mkF m 55 #[.val (.ref q1), .val (.int q2), .val (.long q3), .second, .val (.int (2 : Int32)), .val (.long (z_q1.toInt64)), .second, .val (.long (1 : Int64)), .second, .val (.int (4 : Int32))] [(.long (4 : Int64))])
            refine own_lload X199 hx (hb hby d3_55) (pc' := 57) rfl rfl ?_
            refine own_lcmp X199 hx (hb hby d3_57) (pc' := 58) rfl ?_
            refine own_ifYes X199 hx (hb hby d3_58) ((if0 _ _).trans (flt (mt own_lc_lt.mp hE)).2.1) (pc' := 97) (by decide) (by decide) ?_
            refine own_lload X199 hx (hb hby d3_97) (pc' := 99) rfl rfl ?_
            refine own_retJ X199 hx hret hlk (hb hby d3_99) (by decide) (by decide) ?_
            show own_P _ _ _ _ T199.heap _
            exact ⟨(congrArg some (congrArg Value.long (show (1 : Int64) = (own_f3s2 q2 q3 z_q1 w0_w_bytes_q1 w1_w_bytes_q1 w2_w_bytes_q1 w3_w_bytes_q1) from by rw [own_f3s2, if_neg hc177, if_pos hc191, if_neg hc195, if_pos hc197, if_pos hc201]))), N0, e199⟩
          · refine own_icmpYes X199 hx (hb hby d3_80) (feq hc201).2 (pc' := 91) (by decide) (by decide) ?_
            refine own_iinc X199 hx (hb hby d3_91) (pc' := 94) rfl (Ls' := #[.val (.ref q1), .val (.int q2), .val (.long q3), .second, .val (.int (2 : Int32)), .val (.long (z_q1.toInt64)), .second, .val (.long (-1 : Int64)), .second, .val (.int (4 : Int32))]) rfl rfl ?_
            refine own_goto X199 hx (hb hby d3_94) (pc' := 52) (by decide) (by decide) ?_
            refine own_iload X199 hx (hb hby d3_52) (pc' := 54) rfl rfl ?_
            refine own_i2l X199 hx (hb hby d3_54) (pc' := 55) rfl ?_
            show own_Fin _ _ _ _ T199 (mkF m 55 #[.val (.ref q1), .val (.int q2), .val (.long q3), .second, .val (.int (2 : Int32)), .val (.long (z_q1.toInt64)), .second, .val (.long (-1 : Int64)), .second, .val (.int (4 : Int32))] [(.long (4 : Int64))])
            refine own_lload X199 hx (hb hby d3_55) (pc' := 57) rfl rfl ?_
            refine own_lcmp X199 hx (hb hby d3_57) (pc' := 58) rfl ?_
            refine own_ifYes X199 hx (hb hby d3_58) ((if0 _ _).trans (flt (mt own_lc_lt.mp hE)).2.1) (pc' := 97) (by decide) (by decide) ?_
            refine own_lload X199 hx (hb hby d3_97) (pc' := 99) rfl rfl ?_
            refine own_retJ X199 hx hret hlk (hb hby d3_99) (by decide) (by decide) ?_
            show own_P _ _ _ _ T199.heap _
            exact ⟨(congrArg some (congrArg Value.long (show (-1 : Int64) = (own_f3s2 q2 q3 z_q1 w0_w_bytes_q1 w1_w_bytes_q1 w2_w_bytes_q1 w3_w_bytes_q1) from by rw [own_f3s2, if_neg hc177, if_pos hc191, if_neg hc195, if_pos hc197, if_neg hc201]))), N0, e199⟩
        · refine own_ifYes X193 hx (hb hby d3_58) ((if0 _ _).trans (flt (mt own_lc_lt.mp hc197)).2.1) (pc' := 97) (by decide) (by decide) ?_
          refine own_lload X193 hx (hb hby d3_97) (pc' := 99) rfl rfl ?_
          refine own_retJ X193 hx hret hlk (hb hby d3_99) (by decide) (by decide) ?_
          show own_P _ _ _ _ T193.heap _
          exact ⟨(congrArg some (congrArg Value.long (show (-1 : Int64) = (own_f3s2 q2 q3 z_q1 w0_w_bytes_q1 w1_w_bytes_q1 w2_w_bytes_q1 w3_w_bytes_q1) from by rw [own_f3s2, if_neg hc177, if_pos hc191, if_neg hc195, if_neg hc197]))), N0, e193⟩
    · refine own_ifYes X189 hx (hb hby d3_58) ((if0 _ _).trans (flt (mt own_lc_lt.mp hc191)).2.1) (pc' := 97) (by decide) (by decide) ?_
      refine own_lload X189 hx (hb hby d3_97) (pc' := 99) rfl rfl ?_
      refine own_retJ X189 hx hret hlk (hb hby d3_99) (by decide) (by decide) ?_
      show own_P _ _ _ _ T189.heap _
      exact ⟨(congrArg some (congrArg Value.long (show (-1 : Int64) = (own_f3s2 q2 q3 z_q1 w0_w_bytes_q1 w1_w_bytes_q1 w2_w_bytes_q1 w3_w_bytes_q1) from by rw [own_f3s2, if_neg hc177, if_neg hc191]))), N0, e189⟩
theorem ef_3s2 (m : MethodId) (q1 : Addr) (q2 : Int32) (q3 : Int64) : entryFrame m #[(.ref q1), (.int q2), (.long q3)] 10 = mkF m 0 #[.val (.ref q1), .val (.int q2), .val (.long q3), .second, .unset, .unset, .unset, .unset, .unset, .unset] [] := by first | (simp [entryFrame, mkF, argsToLocals, Value.category]; done) | rfl
set_option maxRecDepth 65536 in
set_option maxHeartbeats 40000000 in
theorem rm3s2 (l : Launch) (Z : State) (a0 : Array Value) (hw : ∀ d ∈ tables_1, d.before a0 Z = true) (ws : List Jvm.Cond) (q1 : Addr) (q2 : Int32) (q3 : Int64) (w_bytes_q1 : Addr) (z_q1 : Int32) (kc_w_bytes_q1 : ClassId) (w0_w_bytes_q1 : Int32) (w1_w_bytes_q1 : Int32) (w2_w_bytes_q1 : Int32) (w3_w_bytes_q1 : Int32) (h0 : Heap) (n0 : Nat) (Z0 : n0 ≤ h0.size) (E_q1 : Exa Z h0 q1 "com/example/typewire/typewire/packet/BitInput") (F_bytes_q1 : Fld Z h0 q1 "com/example/typewire/typewire/packet/BitInput" "bytes" "[B" (.ref w_bytes_q1)) (F_position_q1 : Fld Z h0 q1 "com/example/typewire/typewire/packet/BitInput" "position" "J" (.long (16 : Int64))) (A_w_bytes_q1 : Arv Z h0 w_bytes_q1 kc_w_bytes_q1 .byte z_q1 [(.int w0_w_bytes_q1), (.int w1_w_bytes_q1), (.int w2_w_bytes_q1), (.int w3_w_bytes_q1)] (.int (0 : Int32))) (hz4 : 0 ≤ z_q1.toInt ∧ z_q1.toInt ≤ 4) :
    MetFree l (⟨"com/example/typewire/typewire/packet/BitInput", "bytesBefore", "(IJ)J"⟩ : MethodName) (head1 (Jvm.Cond.code (⟨"com/example/typewire/typewire/packet/BitInput", "bytesBefore", "(IJ)J"⟩ : MethodName) prog_12_method_5_code 10 (some .long) :: ws) ({ frames := 0, cells := 0, slots := 0, locals := 0 } : Room)) (fun a U => a = #[(.ref q1), (.int q2), (.long q3)] ∧ Z.Warmed39 U.vm ∧ U.heap = h0) (fun _ _ _ _ _ => True) (fun _ U o U' => ∃ v L, o = .returned v ∧ (own_P h0 n0 (some (.long (own_f3s2 q2 q3 z_q1 w0_w_bytes_q1 w1_w_bytes_q1 w2_w_bytes_q1 w3_w_bytes_q1)))) v U'.heap L ∧ FrameEnd U o U' L ({ frames := 0, cells := 0, slots := 0, locals := 0 } : Room).cells ({ frames := 0, cells := 0, slots := 0, locals := 0 } : Room).slots) := by
  refine MetFree.of_bodySF (plainFor_of_name pn_3) hisR ?_
  intro p e s m args below meth c s₁ Bd hml0 hP hK
  obtain ⟨rfl, hZ, hh⟩ := hP
  have hown : s.vm.findClass "com/example/typewire/typewire/packet/BitInput" = some m.cls := findClass_of_methodNamed Bd.named
  have hnm := (name_of_methodNamed Bd.named Bd.method).1
  have X0 : Stand p l e ({ frames := 0, cells := 0, slots := 0, locals := 0 } : Room) s m #[(.ref q1), (.int q2), (.long q3)] below meth c s₁ [] 0 0 := Stand.of_body Bd
  have e0 : s₁.heap = h0 := by rw [← hh, Bd.state]; rfl
  have H := sg3s2_0 l hw Bd.exec hZ Bd.bytes hml0 hown hnm Bd.returns Bd.notSynchronized q1 q2 q3 w_bytes_q1 z_q1 kc_w_bytes_q1 w0_w_bytes_q1 w1_w_bytes_q1 w2_w_bytes_q1 w3_w_bytes_q1 Z0 X0 (Fr.nil n0) e0 E_q1 F_bytes_q1 F_position_q1 A_w_bytes_q1 hz4
  obtain ⟨t, h1, h2, o, h3, h4⟩ := H
  exact ⟨t, o, castTop (ef_3s2 m q1 q2 q3) h1, h2, h3, h4⟩
def own_f3s3 (q2 : Int32) (q3 : Int64) (z_q1 : Int32) (w0_w_bytes_q1 : Int32) (w1_w_bytes_q1 : Int32) (w2_w_bytes_q1 : Int32) (w3_w_bytes_q1 : Int32) : Int64 :=
  if q3 < ((z_q1 - (3 : Int32)).toInt64) then (if (3 : Int64) < (((3 : Int64) + q3) + (1 : Int64)) then (if (w3_w_bytes_q1 &&& (255 : Int32)) = q2 then (0 : Int64) else
    (-1 : Int64)) else
    (-1 : Int64)) else
  if (3 : Int64) < (z_q1.toInt64) then (if (w3_w_bytes_q1 &&& (255 : Int32)) = q2 then (0 : Int64) else
    (-1 : Int64)) else
  (-1 : Int64)
set_option maxRecDepth 65536 in
set_option maxHeartbeats 40000000 in
theorem sg3s3_0 {p : Program} (l : Launch) {e : Env} {s : State} {m : MethodId} {args : Array Value} {below : List Frame} {meth : Method} {c : Code} {Z : State} {a0 : Array Value} (hw : ∀ d ∈ tables_1, d.before a0 Z = true) (hx : p.tables.exec = Jvm.exec) (hZ : Z.Warmed39 s.vm) (hby : c.code = prog_12_method_5_code) (hml : c.maxLocals = 10) (hown : s.vm.findClass "com/example/typewire/typewire/packet/BitInput" = some m.cls) (hnm : meth.name = "bytesBefore") (hret : meth.sig.returnType = (some .long)) (hlk : meth.locks = false) (q1 : Addr) (q2 : Int32) (q3 : Int64) (w_bytes_q1 : Addr) (z_q1 : Int32) (kc_w_bytes_q1 : ClassId) (w0_w_bytes_q1 : Int32) (w1_w_bytes_q1 : Int32) (w2_w_bytes_q1 : Int32) (w3_w_bytes_q1 : Int32) {h0 : Heap} {n0 : Nat} (Z0 : n0 ≤ h0.size) {T0 : State} {L0 : List Loc} (X0 : Stand p l e ({ frames := 0, cells := 0, slots := 0, locals := 0 } : Room) s m args below meth c T0 L0 0 0) (N0 : Fr n0 L0) (e0 : T0.heap = h0) (E_q1 : Exa Z h0 q1 "com/example/typewire/typewire/packet/BitInput") (F_bytes_q1 : Fld Z h0 q1 "com/example/typewire/typewire/packet/BitInput" "bytes" "[B" (.ref w_bytes_q1)) (F_position_q1 : Fld Z h0 q1 "com/example/typewire/typewire/packet/BitInput" "position" "J" (.long (24 : Int64))) (A_w_bytes_q1 : Arv Z h0 w_bytes_q1 kc_w_bytes_q1 .byte z_q1 [(.int w0_w_bytes_q1), (.int w1_w_bytes_q1), (.int w2_w_bytes_q1), (.int w3_w_bytes_q1)] (.int (0 : Int32))) (hz4 : 0 ≤ z_q1.toInt ∧ z_q1.toInt ≤ 4) :
    own_Fin p.tables e below (own_End below s (own_P h0 n0 (some (.long (own_f3s3 q2 q3 z_q1 w0_w_bytes_q1 w1_w_bytes_q1 w2_w_bytes_q1 w3_w_bytes_q1)))) 0 0) T0 (mkF m 0 #[.val (.ref q1), .val (.int q2), .val (.long q3), .second, .unset, .unset, .unset, .unset, .unset, .unset] []) := by
  refine own_aloadN X0 hx (hb hby d3_0) (pc' := 1) rfl rfl rfl ?_
  refine own_getF X0 hx hZ hown (hw _ (List.mem_of_getElem? (i := 18) rfl)) Via.refl e0 F_position_q1 (hb hby d3_1) (pc' := 4) rfl (fun T202 X202 e202 => ?_)
  refine own_ldc2Long X202 hx hZ hown (hw _ (List.mem_of_getElem? (i := 20) rfl)) (hb hby d3_4) (pc' := 7) rfl ?_
  refine own_ldiv X202 hx (hb hby d3_7) (pc' := 8) rfl (by decide) ?_
  show own_Fin _ _ _ _ T202 (mkF m 8 #[.val (.ref q1), .val (.int q2), .val (.long q3), .second, .unset, .unset, .unset, .unset, .unset, .unset] [(.long (3 : Int64))])
  refine own_l2i X202 hx (hb hby d3_8) (pc' := 9) rfl ?_
  show own_Fin _ _ _ _ T202 (mkF m 9 #[.val (.ref q1), .val (.int q2), .val (.long q3), .second, .unset, .unset, .unset, .unset, .unset, .unset] [(.int (3 : Int32))])
  refine own_istore X202 hx (hb hby d3_9) (pc' := 11) rfl (Ls' := #[.val (.ref q1), .val (.int q2), .val (.long q3), .second, .val (.int (3 : Int32)), .unset, .unset, .unset, .unset, .unset]) rfl ?_
  refine own_lloadN X202 hx (hb hby d3_11) (pc' := 12) rfl rfl ?_
  refine own_aloadN X202 hx (hb hby d3_12) (pc' := 13) rfl rfl rfl ?_
  refine own_getF X202 hx hZ hown (hw _ (List.mem_of_getElem? (i := 11) rfl)) Via.refl e202 F_bytes_q1 (hb hby d3_13) (pc' := 16) rfl (fun T203 X203 e203 => ?_)
  obtain ⟨cl204, Ar204, qa204, S204, M204, H204, G204⟩ := id A_w_bytes_q1
  refine own_st ?_ (fun t k => X203.arraylength hx (by rw [e203]; exact Ar204.1) (State.isArrayOf_alike hZ.alike Ar204.2.1) (g := (mkF m 16 #[.val (.ref q1), .val (.int q2), .val (.long q3), .second, .val (.int (3 : Int32)), .unset, .unset, .unset, .unset, .unset] [(.ref w_bytes_q1), (.long q3)])) rfl rfl (hb hby d3_16) t k)
  rw [len_of S204 M204]
  show own_Fin _ _ _ _ T203 (mkF m 17 #[.val (.ref q1), .val (.int q2), .val (.long q3), .second, .val (.int (3 : Int32)), .unset, .unset, .unset, .unset, .unset] [(.int z_q1), (.long q3)])
  refine own_iload X203 hx (hb hby d3_17) (pc' := 19) rfl rfl ?_
  refine own_isub X203 hx (hb hby d3_19) (pc' := 20) rfl ?_
  refine own_i2l X203 hx (hb hby d3_20) (pc' := 21) rfl ?_
  refine own_lcmp X203 hx (hb hby d3_21) (pc' := 22) rfl ?_
  by_cases hc205 : q3 < ((z_q1 - (3 : Int32)).toInt64)
  · refine own_ifNo X203 hx (hb hby d3_22) (pc' := 25) rfl ((if0 _ _).trans (tlt (own_lc_lt.mpr hc205)).2.1) ?_
    refine own_iload X203 hx (hb hby d3_25) (pc' := 27) rfl rfl ?_
    refine own_i2l X203 hx (hb hby d3_27) (pc' := 28) rfl ?_
    show own_Fin _ _ _ _ T203 (mkF m 28 #[.val (.ref q1), .val (.int q2), .val (.long q3), .second, .val (.int (3 : Int32)), .unset, .unset, .unset, .unset, .unset] [(.long (3 : Int64))])
    refine own_lloadN X203 hx (hb hby d3_28) (pc' := 29) rfl rfl ?_
    refine own_ladd X203 hx (hb hby d3_29) (pc' := 30) rfl ?_
    refine own_lconst X203 hx (hb hby d3_30) (pc' := 31) rfl (v := (1 : Int64)) rfl ?_
    refine own_ladd X203 hx (hb hby d3_31) (pc' := 32) rfl ?_
    refine own_goto X203 hx (hb hby d3_32) (pc' := 41) (by decide) (by decide) ?_
    refine own_lstore X203 hx (hb hby d3_41) (pc' := 43) rfl (Ls' := #[.val (.ref q1), .val (.int q2), .val (.long q3), .second, .val (.int (3 : Int32)), .val (.long (((3 : Int64) + q3) + (1 : Int64))), .second, .unset, .unset, .unset]) rfl ?_
    have hE : ¬ ((4 : Int64) < (((3 : Int64) + q3) + (1 : Int64))) := own_out2 (k := (3 : Int32)) hz4 (by decide) hc205
    refine own_ldc2Long X203 hx hZ hown (hw _ (List.mem_of_getElem? (i := 21) rfl)) (hb hby d3_43) (pc' := 46) rfl ?_
    refine own_lstore X203 hx (hb hby d3_46) (pc' := 48) rfl (Ls' := #[.val (.ref q1), .val (.int q2), .val (.long q3), .second, .val (.int (3 : Int32)), .val (.long (((3 : Int64) + q3) + (1 : Int64))), .second, .val (.long (-1 : Int64)), .second, .unset]) rfl ?_
    refine own_iload X203 hx (hb hby d3_48) (pc' := 50) rfl rfl ?_
    refine own_istore X203 hx (hb hby d3_50) (pc' := 52) rfl (Ls' := #[.val (.ref q1), .val (.int q2), .val (.long q3), .second, .val (.int (3 : Int32)), .val (.long (((3 : Int64) + q3) + (1 : Int64))), .second, .val (.long (-1 : Int64)), .second, .val (.int (3 : Int32))]) rfl ?_
    refine own_iload X203 hx (hb hby d3_52) (pc' := 54) rfl rfl ?_
    refine own_i2l X203 hx (hb hby d3_54) (pc' := 55) rfl ?_
    show own_Fin _ _ _ _ T203 (mkF m 55 #[.val (.ref q1), .val (.int q2), .val (.long q3), .second, .val (.int (3 : Int32)), .val (.long (((3 : Int64) + q3) + (1 : Int64))), .second, .val (.long (-1 : Int64)), .second, .val (.int (3 : Int32))] [(.long (3 : Int64))])
    refine own_lload X203 hx (hb hby d3_55) (pc' := 57) rfl rfl ?_
    refine own_lcmp X203 hx (hb hby d3_57) (pc' := 58) rfl ?_
    by_cases hc206 : (3 : Int64) < (((3 : Int64) + q3) + (1 : Int64))
    · refine own_ifNo X203 hx (hb hby d3_58) (pc' := 61) rfl ((if0 _ _).trans (tlt (own_lc_lt.mpr hc206)).2.1) ?_
      refine own_lload X203 hx (hb hby d3_61) (pc' := 63) rfl rfl ?_
      refine own_lconst X203 hx (hb hby d3_63) (pc' := 64) rfl (v := (0 : Int64)) rfl ?_
      refine own_lcmp X203 hx (hb hby d3_64) (pc' := 65) rfl ?_
      refine own_ifNo X203 hx (hb hby d3_65) (pc' := 68) rfl ((if0 _ _).trans (tlt (own_lc_lt.mpr (by decide : (-1 : Int64) < (0 : Int64)))).2.1) ?_
      have hz207 : (3 : Int32) < z_q1 := own_in2 (k := (3 : Int32)) hz4 (by decide) hc205 hc206
      refine own_aloadN X203 hx (hb hby d3_68) (pc' := 69) rfl rfl rfl ?_
      refine own_getF X203 hx hZ hown (hw _ (List.mem_of_getElem? (i := 11) rfl)) Via.refl e203 F_bytes_q1 (hb hby d3_69) (pc' := 72) rfl (fun T208 X208 e208 => ?_)
      refine own_iload X208 hx (hb hby d3_72) (pc' := 74) rfl rfl ?_
      obtain ⟨cl209, Ar209, qa209, S209, M209, H209, G209⟩ := id A_w_bytes_q1
      have hin209 : ¬ ((3 : Int32) < 0 ∨ cl209.slots.size ≤ ((3 : Int32)).toNatClampNeg) := inb_of S209 ⟨by decide, hz207⟩
      refine own_st ?_ (fun t k => X208.baloadBytes hx (j := (3 : Int32)) (v := (.int w3_w_bytes_q1)) (by rw [e208]; exact Ar209.1) (State.isArrayOf_alike hZ.alike Ar209.2.1) Ar209.2.2 hin209 (Has.at H209 hin209 rfl) (g := (mkF m 74 #[.val (.ref q1), .val (.int q2), .val (.long q3), .second, .val (.int (3 : Int32)), .val (.long (((3 : Int64) + q3) + (1 : Int64))), .second, .val (.long (-1 : Int64)), .second, .val (.int (3 : Int32))] [(.int (3 : Int32)), (.ref w_bytes_q1)])) rfl rfl (hb hby d3_74) t k)
      show own_Fin _ _ _ _ T208 (mkF m 75 #[.val (.ref q1), .val (.int q2), .val (.long q3), .second, .val (.int (3 : Int32)), .val (.long (((3 : Int64) + q3) + (1 : Int64))), .second, .val (.long (-1 : Int64)), .second, .val (.int (3 : Int32))] [(.int w3_w_bytes_q1)])
      refine own_sipush X208 hx (hb hby d3_75) (pc' := 78) rfl (v := (255 : Int32)) rfl ?_
      refine own_iand X208 hx (hb hby d3_78) (pc' := 79) rfl ?_
      refine own_iloadN X208 hx (hb hby d3_79) (pc' := 80) rfl rfl ?_
      by_cases hc210 : (w3_w_bytes_q1 &&& (255 : Int32)) = q2
      · refine own_icmpNo X208 hx (hb hby d3_80) (pc' := 83) rfl (teq hc210).2 ?_
        refine own_iload X208 hx (hb hby d3_83) (pc' := 85) rfl rfl ?_
        refine own_iload X208 hx (hb hby d3_85) (pc' := 87) rfl rfl ?_
        refine own_isub X208 hx (hb hby d3_87) (pc' := 88) rfl ?_
        show own_Fin _ _ _ _ T208 (mkF m 88 #[.val (.ref q1), .val (.int q2), .val (.long q3), .second, .val (.int (3 : Int32)), .val (.long (((3 : Int64) + q3) + (1 : Int64))), .second, .val (.long (-1 : Int64)), .second, .val (.int (3 : Int32))] [(.int (0 : Int32))])
        refine own_i2l X208 hx (hb hby d3_88) (pc' := 89) rfl ?_
        show own_Fin _ _ _ _ T208 (mkF m 89 #[.val (.ref q1), .val (.int q2), .val (.long q3), .second, .val (.int (3 : Int32)), .val (.long (((3 : Int64) + q3) + (1 : Int64))), .second, .val (.long (-1 : Int64)), .second, .val (.int (3 : Int32))] [(.long (0 : Int64))])
        refine own_lstore X208 hx (hb hby d3_89) (pc' := 91) rfl (Ls' := #[.val (.ref q1), .val (.int q2), .val (.long q3), .second, .val (.int (3 : Int32)), .val (.long (((3 : Int64) + q3) + (1 : Int64))), .second, .val (.long (0 : Int64)), .second, .val (.int (3 : Int32))]) rfl ?_
        refine own_iinc X208 hx (hb hby d3_91) (pc' := 94) rfl (Ls' := #[.val (.ref q1), .val (.int q2), .val (.long q3), .second, .val (.int (3 : Int32)), .val (.long (((3 : Int64) + q3) + (1 : Int64))), .second, .val (.long (0 : Int64)), .second, .val (.int (4 : Int32))]) rfl rfl ?_
        refine own_goto X208 hx (hb hby d3_94) (pc' := 52) (by decide) (by decide) ?_
        refine own_iload X208 hx (hb hby d3_52) (pc' := 54) rfl rfl ?_
        refine own_i2l X208 hx (hb hby d3_54) (pc' := 55) rfl ?_
        show own_Fin _ _ _ _ T208 (mkF m 55 #[.val (.ref q1), .val (.int q2), .val (.long q3), .second, .val (.int (3 : Int32)), .val (.long (((3 : Int64) + q3) + (1 : Int64))), .second, .val (.long (0 : Int64)), .second, .val (.int (4 : Int32))] [(.long (4 : Int64))])
        refine own_lload X208 hx (hb hby d3_55) (pc' := 57) rfl rfl ?_
        refine own_lcmp X208 hx (hb hby d3_57) (pc' := 58) rfl ?_
        refine own_ifYes X208 hx (hb hby d3_58) ((if0 _ _).trans (flt (mt own_lc_lt.mp hE)).2.1) (pc' := 97) (by decide) (by decide) ?_
        refine own_lload X208 hx (hb hby d3_97) (pc' := 99) rfl rfl ?_
        refine own_retJ X208 hx hret hlk (hb hby d3_99) (by decide) (by decide) ?_
        show own_P _ _ _ _ T208.heap _
        exact ⟨(congrArg some (congrArg Value.long (show (0 : Int64) = (own_f3s3 q2 q3 z_q1 w0_w_bytes_q1 w1_w_bytes_q1 w2_w_bytes_q1 w3_w_bytes_q1) from by rw [own_f3s3, if_pos hc205, if_pos hc206, if_pos hc210]))), N0, e208⟩
      · refine own_icmpYes X208 hx (hb hby d3_80) (feq hc210).2 (pc' := 91) (by decide) (by decide) ?_
        refine own_iinc X208 hx (hb hby d3_91) (pc' := 94) rfl (Ls' := #[.val (.ref q1), .val (.int q2), .val (.long q3), .second, .val (.int (3 : Int32)), .val (.long (((3 : Int64) + q3) + (1 : Int64))), .second, .val (.long (-1 : Int64)), .second, .val (.int (4 : Int32))]) rfl rfl ?_
        refine own_goto X208 hx (hb hby d3_94) (pc' := 52) (by decide) (by decide) ?_
        refine own_iload X208 hx (hb hby d3_52) (pc' := 54) rfl rfl ?_
        refine own_i2l X208 hx (hb hby d3_54) (pc' := 55) rfl ?_
        show own_Fin _ _ _ _ T208 (mkF m 55 #[.val (.ref q1), .val (.int q2), .val (.long q3), .second, .val (.int (3 : Int32)), .val (.long (((3 : Int64) + q3) + (1 : Int64))), .second, .val (.long (-1 : Int64)), .second, .val (.int (4 : Int32))] [(.long (4 : Int64))])
        refine own_lload X208 hx (hb hby d3_55) (pc' := 57) rfl rfl ?_
        refine own_lcmp X208 hx (hb hby d3_57) (pc' := 58) rfl ?_
        refine own_ifYes X208 hx (hb hby d3_58) ((if0 _ _).trans (flt (mt own_lc_lt.mp hE)).2.1) (pc' := 97) (by decide) (by decide) ?_
        refine own_lload X208 hx (hb hby d3_97) (pc' := 99) rfl rfl ?_
        refine own_retJ X208 hx hret hlk (hb hby d3_99) (by decide) (by decide) ?_
        show own_P _ _ _ _ T208.heap _
        exact ⟨(congrArg some (congrArg Value.long (show (-1 : Int64) = (own_f3s3 q2 q3 z_q1 w0_w_bytes_q1 w1_w_bytes_q1 w2_w_bytes_q1 w3_w_bytes_q1) from by rw [own_f3s3, if_pos hc205, if_pos hc206, if_neg hc210]))), N0, e208⟩
    · refine own_ifYes X203 hx (hb hby d3_58) ((if0 _ _).trans (flt (mt own_lc_lt.mp hc206)).2.1) (pc' := 97) (by decide) (by decide) ?_
      refine own_lload X203 hx (hb hby d3_97) (pc' := 99) rfl rfl ?_
      refine own_retJ X203 hx hret hlk (hb hby d3_99) (by decide) (by decide) ?_
      show own_P _ _ _ _ T203.heap _
      exact ⟨(congrArg some (congrArg Value.long (show (-1 : Int64) = (own_f3s3 q2 q3 z_q1 w0_w_bytes_q1 w1_w_bytes_q1 w2_w_bytes_q1 w3_w_bytes_q1) from by rw [own_f3s3, if_pos hc205, if_neg hc206]))), N0, e203⟩
  · refine own_ifYes X203 hx (hb hby d3_22) ((if0 _ _).trans (flt (mt own_lc_lt.mp hc205)).2.1) (pc' := 35) (by decide) (by decide) ?_
    refine own_aloadN X203 hx (hb hby d3_35) (pc' := 36) rfl rfl rfl ?_
    refine own_getF X203 hx hZ hown (hw _ (List.mem_of_getElem? (i := 11) rfl)) Via.refl e203 F_bytes_q1 (hb hby d3_36) (pc' := 39) rfl (fun T211 X211 e211 => ?_)
    obtain ⟨cl212, Ar212, qa212, S212, M212, H212, G212⟩ := id A_w_bytes_q1
    refine own_st ?_ (fun t k => X211.arraylength hx (by rw [e211]; exact Ar212.1) (State.isArrayOf_alike hZ.alike Ar212.2.1) (g := (mkF m 39 #[.val (.ref q1), .val (.int q2), .val (.long q3), .second, .val (.int (3 : Int32)), .unset, .unset, .unset, .unset, .unset] [(.ref w_bytes_q1)])) rfl rfl (hb hby d3_39) t k)
    rw [len_of S212 M212]
    show own_Fin _ _ _ _ T211 (mkF m 40 #[.val (.ref q1), .val (.int q2), .val (.long q3), .second, .val (.int (3 : Int32)), .unset, .unset, .unset, .unset, .unset] [(.int z_q1)])
    refine own_i2l X211 hx (hb hby d3_40) (pc' := 41) rfl ?_
    refine own_lstore X211 hx (hb hby d3_41) (pc' := 43) rfl (Ls' := #[.val (.ref q1), .val (.int q2), .val (.long q3), .second, .val (.int (3 : Int32)), .val (.long (z_q1.toInt64)), .second, .unset, .unset, .unset]) rfl ?_
    have hE : ¬ ((4 : Int64) < (z_q1.toInt64)) := own_out1 hz4
    refine own_ldc2Long X211 hx hZ hown (hw _ (List.mem_of_getElem? (i := 21) rfl)) (hb hby d3_43) (pc' := 46) rfl ?_
    refine own_lstore X211 hx (hb hby d3_46) (pc' := 48) rfl (Ls' := #[.val (.ref q1), .val (.int q2), .val (.long q3), .second, .val (.int (3 : Int32)), .val (.long (z_q1.toInt64)), .second, .val (.long (-1 : Int64)), .second, .unset]) rfl ?_
    refine own_iload X211 hx (hb hby d3_48) (pc' := 50) rfl rfl ?_
    refine own_istore X211 hx (hb hby d3_50) (pc' := 52) rfl (Ls' := #[.val (.ref q1), .val (.int q2), .val (.long q3), .second, .val (.int (3 : Int32)), .val (.long (z_q1.toInt64)), .second, .val (.long (-1 : Int64)), .second, .val (.int (3 : Int32))]) rfl ?_
    refine own_iload X211 hx (hb hby d3_52) (pc' := 54) rfl rfl ?_
    refine own_i2l X211 hx (hb hby d3_54) (pc' := 55) rfl ?_
    show own_Fin _ _ _ _ T211 (mkF m 55 #[.val (.ref q1), .val (.int q2), .val (.long q3), .second, .val (.int (3 : Int32)), .val (.long (z_q1.toInt64)), .second, .val (.long (-1 : Int64)), .second, .val (.int (3 : Int32))] [(.long (3 : Int64))])
    refine own_lload X211 hx (hb hby d3_55) (pc' := 57) rfl rfl ?_
    refine own_lcmp X211 hx (hb hby d3_57) (pc' := 58) rfl ?_
    by_cases hc213 : (3 : Int64) < (z_q1.toInt64)
    · refine own_ifNo X211 hx (hb hby d3_58) (pc' := 61) rfl ((if0 _ _).trans (tlt (own_lc_lt.mpr hc213)).2.1) ?_
      refine own_lload X211 hx (hb hby d3_61) (pc' := 63) rfl rfl ?_
      refine own_lconst X211 hx (hb hby d3_63) (pc' := 64) rfl (v := (0 : Int64)) rfl ?_
      refine own_lcmp X211 hx (hb hby d3_64) (pc' := 65) rfl ?_
      refine own_ifNo X211 hx (hb hby d3_65) (pc' := 68) rfl ((if0 _ _).trans (tlt (own_lc_lt.mpr (by decide : (-1 : Int64) < (0 : Int64)))).2.1) ?_
      have hz214 : (3 : Int32) < z_q1 := own_in1 (by decide) hc213
      refine own_aloadN X211 hx (hb hby d3_68) (pc' := 69) rfl rfl rfl ?_
      refine own_getF X211 hx hZ hown (hw _ (List.mem_of_getElem? (i := 11) rfl)) Via.refl e211 F_bytes_q1 (hb hby d3_69) (pc' := 72) rfl (fun T215 X215 e215 => ?_)
      refine own_iload X215 hx (hb hby d3_72) (pc' := 74) rfl rfl ?_
      obtain ⟨cl216, Ar216, qa216, S216, M216, H216, G216⟩ := id A_w_bytes_q1
      have hin216 : ¬ ((3 : Int32) < 0 ∨ cl216.slots.size ≤ ((3 : Int32)).toNatClampNeg) := inb_of S216 ⟨by decide, hz214⟩
      refine own_st ?_ (fun t k => X215.baloadBytes hx (j := (3 : Int32)) (v := (.int w3_w_bytes_q1)) (by rw [e215]; exact Ar216.1) (State.isArrayOf_alike hZ.alike Ar216.2.1) Ar216.2.2 hin216 (Has.at H216 hin216 rfl) (g := (mkF m 74 #[.val (.ref q1), .val (.int q2), .val (.long q3), .second, .val (.int (3 : Int32)), .val (.long (z_q1.toInt64)), .second, .val (.long (-1 : Int64)), .second, .val (.int (3 : Int32))] [(.int (3 : Int32)), (.ref w_bytes_q1)])) rfl rfl (hb hby d3_74) t k)
      show own_Fin _ _ _ _ T215 (mkF m 75 #[.val (.ref q1), .val (.int q2), .val (.long q3), .second, .val (.int (3 : Int32)), .val (.long (z_q1.toInt64)), .second, .val (.long (-1 : Int64)), .second, .val (.int (3 : Int32))] [(.int w3_w_bytes_q1)])
      refine own_sipush X215 hx (hb hby d3_75) (pc' := 78) rfl (v := (255 : Int32)) rfl ?_
      refine own_iand X215 hx (hb hby d3_78) (pc' := 79) rfl ?_
      refine own_iloadN X215 hx (hb hby d3_79) (pc' := 80) rfl rfl ?_
      by_cases hc217 : (w3_w_bytes_q1 &&& (255 : Int32)) = q2
      · refine own_icmpNo X215 hx (hb hby d3_80) (pc' := 83) rfl (teq hc217).2 ?_
        refine own_iload X215 hx (hb hby d3_83) (pc' := 85) rfl rfl ?_
        refine own_iload X215 hx (hb hby d3_85) (pc' := 87) rfl rfl ?_
        refine own_isub X215 hx (hb hby d3_87) (pc' := 88) rfl ?_
        show own_Fin _ _ _ _ T215 (mkF m 88 #[.val (.ref q1), .val (.int q2), .val (.long q3), .second, .val (.int (3 : Int32)), .val (.long (z_q1.toInt64)), .second, .val (.long (-1 : Int64)), .second, .val (.int (3 : Int32))] [(.int (0 : Int32))])
        refine own_i2l X215 hx (hb hby d3_88) (pc' := 89) rfl ?_
        show own_Fin _ _ _ _ T215 (mkF m 89 #[.val (.ref q1), .val (.int q2), .val (.long q3), .second, .val (.int (3 : Int32)), .val (.long (z_q1.toInt64)), .second, .val (.long (-1 : Int64)), .second, .val (.int (3 : Int32))] [(.long (0 : Int64))])
        refine own_lstore X215 hx (hb hby d3_89) (pc' := 91) rfl (Ls' := #[.val (.ref q1), .val (.int q2), .val (.long q3), .second, .val (.int (3 : Int32)), .val (.long (z_q1.toInt64)), .second, .val (.long (0 : Int64)), .second, .val (.int (3 : Int32))]) rfl ?_
        refine own_iinc X215 hx (hb hby d3_91) (pc' := 94) rfl (Ls' := #[.val (.ref q1), .val (.int q2), .val (.long q3), .second, .val (.int (3 : Int32)), .val (.long (z_q1.toInt64)), .second, .val (.long (0 : Int64)), .second, .val (.int (4 : Int32))]) rfl rfl ?_
        refine own_goto X215 hx (hb hby d3_94) (pc' := 52) (by decide) (by decide) ?_
        refine own_iload X215 hx (hb hby d3_52) (pc' := 54) rfl rfl ?_
        refine own_i2l X215 hx (hb hby d3_54) (pc' := 55) rfl ?_
        show own_Fin _ _ _ _ T215 (mkF m 55 #[.val (.ref q1), .val (.int q2), .val (.long q3), .second, .val (.int (3 : Int32)), .val (.long (z_q1.toInt64)), .second, .val (.long (0 : Int64)), .second, .val (.int (4 : Int32))] [(.long (4 : Int64))])
        refine own_lload X215 hx (hb hby d3_55) (pc' := 57) rfl rfl ?_
        refine own_lcmp X215 hx (hb hby d3_57) (pc' := 58) rfl ?_
        refine own_ifYes X215 hx (hb hby d3_58) ((if0 _ _).trans (flt (mt own_lc_lt.mp hE)).2.1) (pc' := 97) (by decide) (by decide) ?_
        refine own_lload X215 hx (hb hby d3_97) (pc' := 99) rfl rfl ?_
        refine own_retJ X215 hx hret hlk (hb hby d3_99) (by decide) (by decide) ?_
        show own_P _ _ _ _ T215.heap _
        exact ⟨(congrArg some (congrArg Value.long (show (0 : Int64) = (own_f3s3 q2 q3 z_q1 w0_w_bytes_q1 w1_w_bytes_q1 w2_w_bytes_q1 w3_w_bytes_q1) from by rw [own_f3s3, if_neg hc205, if_pos hc213, if_pos hc217]))), N0, e215⟩
      · refine own_icmpYes X215 hx (hb hby d3_80) (feq hc217).2 (pc' := 91) (by decide) (by decide) ?_
        refine own_iinc X215 hx (hb hby d3_91) (pc' := 94) rfl (Ls' := #[.val (.ref q1), .val (.int q2), .val (.long q3), .second, .val (.int (3 : Int32)), .val (.long (z_q1.toInt64)), .second, .val (.long (-1 : Int64)), .second, .val (.int (4 : Int32))]) rfl rfl ?_
        refine own_goto X215 hx (hb hby d3_94) (pc' := 52) (by decide) (by decide) ?_
        refine own_iload X215 hx (hb hby d3_52) (pc' := 54) rfl rfl ?_
        refine own_i2l X215 hx (hb hby d3_54) (pc' := 55) rfl ?_
        show own_Fin _ _ _ _ T215 (mkF m 55 #[.val (.ref q1), .val (.int q2), .val (.long q3), .second, .val (.int (3 : Int32)), .val (.long (z_q1.toInt64)), .second, .val (.long (-1 : Int64)), .second, .val (.int (4 : Int32))] [(.long (4 : Int64))])
        refine own_lload X215 hx (hb hby d3_55) (pc' := 57) rfl rfl ?_
        refine own_lcmp X215 hx (hb hby d3_57) (pc' := 58) rfl ?_
        refine own_ifYes X215 hx (hb hby d3_58) ((if0 _ _).trans (flt (mt own_lc_lt.mp hE)).2.1) (pc' := 97) (by decide) (by decide) ?_
        refine own_lload X215 hx (hb hby d3_97) (pc' := 99) rfl rfl ?_
        refine own_retJ X215 hx hret hlk (hb hby d3_99) (by decide) (by decide) ?_
        show own_P _ _ _ _ T215.heap _
        exact ⟨(congrArg some (congrArg Value.long (show (-1 : Int64) = (own_f3s3 q2 q3 z_q1 w0_w_bytes_q1 w1_w_bytes_q1 w2_w_bytes_q1 w3_w_bytes_q1) from by rw [own_f3s3, if_neg hc205, if_pos hc213, if_neg hc217]))), N0, e215⟩
    · refine own_ifYes X211 hx (hb hby d3_58) ((if0 _ _).trans (flt (mt own_lc_lt.mp hc213)).2.1) (pc' := 97) (by decide) (by decide) ?_
      refine own_lload X211 hx (hb hby d3_97) (pc' := 99) rfl rfl ?_
      refine own_retJ X211 hx hret hlk (hb hby d3_99) (by decide) (by decide) ?_
      show own_P _ _ _ _ T211.heap _
      exact ⟨(congrArg some (congrArg Value.long (show (-1 : Int64) = (own_f3s3 q2 q3 z_q1 w0_w_bytes_q1 w1_w_bytes_q1 w2_w_bytes_q1 w3_w_bytes_q1) from by rw [own_f3s3, if_neg hc205, if_neg hc213]))), N0, e211⟩
theorem ef_3s3 (m : MethodId) (q1 : Addr) (q2 : Int32) (q3 : Int64) : entryFrame m #[(.ref q1), (.int q2), (.long q3)] 10 = mkF m 0 #[.val (.ref q1), .val (.int q2), .val (.long q3), .second, .unset, .unset, .unset, .unset, .unset, .unset] [] := by first | (simp [entryFrame, mkF, argsToLocals, Value.category]; done) | rfl
set_option maxRecDepth 65536 in
set_option maxHeartbeats 40000000 in
theorem rm3s3 (l : Launch) (Z : State) (a0 : Array Value) (hw : ∀ d ∈ tables_1, d.before a0 Z = true) (ws : List Jvm.Cond) (q1 : Addr) (q2 : Int32) (q3 : Int64) (w_bytes_q1 : Addr) (z_q1 : Int32) (kc_w_bytes_q1 : ClassId) (w0_w_bytes_q1 : Int32) (w1_w_bytes_q1 : Int32) (w2_w_bytes_q1 : Int32) (w3_w_bytes_q1 : Int32) (h0 : Heap) (n0 : Nat) (Z0 : n0 ≤ h0.size) (E_q1 : Exa Z h0 q1 "com/example/typewire/typewire/packet/BitInput") (F_bytes_q1 : Fld Z h0 q1 "com/example/typewire/typewire/packet/BitInput" "bytes" "[B" (.ref w_bytes_q1)) (F_position_q1 : Fld Z h0 q1 "com/example/typewire/typewire/packet/BitInput" "position" "J" (.long (24 : Int64))) (A_w_bytes_q1 : Arv Z h0 w_bytes_q1 kc_w_bytes_q1 .byte z_q1 [(.int w0_w_bytes_q1), (.int w1_w_bytes_q1), (.int w2_w_bytes_q1), (.int w3_w_bytes_q1)] (.int (0 : Int32))) (hz4 : 0 ≤ z_q1.toInt ∧ z_q1.toInt ≤ 4) :
    MetFree l (⟨"com/example/typewire/typewire/packet/BitInput", "bytesBefore", "(IJ)J"⟩ : MethodName) (head1 (Jvm.Cond.code (⟨"com/example/typewire/typewire/packet/BitInput", "bytesBefore", "(IJ)J"⟩ : MethodName) prog_12_method_5_code 10 (some .long) :: ws) ({ frames := 0, cells := 0, slots := 0, locals := 0 } : Room)) (fun a U => a = #[(.ref q1), (.int q2), (.long q3)] ∧ Z.Warmed39 U.vm ∧ U.heap = h0) (fun _ _ _ _ _ => True) (fun _ U o U' => ∃ v L, o = .returned v ∧ (own_P h0 n0 (some (.long (own_f3s3 q2 q3 z_q1 w0_w_bytes_q1 w1_w_bytes_q1 w2_w_bytes_q1 w3_w_bytes_q1)))) v U'.heap L ∧ FrameEnd U o U' L ({ frames := 0, cells := 0, slots := 0, locals := 0 } : Room).cells ({ frames := 0, cells := 0, slots := 0, locals := 0 } : Room).slots) := by
  refine MetFree.of_bodySF (plainFor_of_name pn_3) hisR ?_
  intro p e s m args below meth c s₁ Bd hml0 hP hK
  obtain ⟨rfl, hZ, hh⟩ := hP
  have hown : s.vm.findClass "com/example/typewire/typewire/packet/BitInput" = some m.cls := findClass_of_methodNamed Bd.named
  have hnm := (name_of_methodNamed Bd.named Bd.method).1
  have X0 : Stand p l e ({ frames := 0, cells := 0, slots := 0, locals := 0 } : Room) s m #[(.ref q1), (.int q2), (.long q3)] below meth c s₁ [] 0 0 := Stand.of_body Bd
  have e0 : s₁.heap = h0 := by rw [← hh, Bd.state]; rfl
  have H := sg3s3_0 l hw Bd.exec hZ Bd.bytes hml0 hown hnm Bd.returns Bd.notSynchronized q1 q2 q3 w_bytes_q1 z_q1 kc_w_bytes_q1 w0_w_bytes_q1 w1_w_bytes_q1 w2_w_bytes_q1 w3_w_bytes_q1 Z0 X0 (Fr.nil n0) e0 E_q1 F_bytes_q1 F_position_q1 A_w_bytes_q1 hz4
  obtain ⟨t, h1, h2, o, h3, h4⟩ := H
  exact ⟨t, o, castTop (ef_3s3 m q1 q2 q3) h1, h2, h3, h4⟩
def own_f3s4 (q2 : Int32) (q3 : Int64) (z_q1 : Int32) (w0_w_bytes_q1 : Int32) (w1_w_bytes_q1 : Int32) (w2_w_bytes_q1 : Int32) (w3_w_bytes_q1 : Int32) : Int64 :=
  if q3 < ((z_q1 - (4 : Int32)).toInt64) then (-1 : Int64) else
  (-1 : Int64)
set_option maxRecDepth 65536 in
set_option maxHeartbeats 40000000 in
theorem sg3s4_0 {p : Program} (l : Launch) {e : Env} {s : State} {m : MethodId} {args : Array Value} {below : List Frame} {meth : Method} {c : Code} {Z : State} {a0 : Array Value} (hw : ∀ d ∈ tables_1, d.before a0 Z = true) (hx : p.tables.exec = Jvm.exec) (hZ : Z.Warmed39 s.vm) (hby : c.code = prog_12_method_5_code) (hml : c.maxLocals = 10) (hown : s.vm.findClass "com/example/typewire/typewire/packet/BitInput" = some m.cls) (hnm : meth.name = "bytesBefore") (hret : meth.sig.returnType = (some .long)) (hlk : meth.locks = false) (q1 : Addr) (q2 : Int32) (q3 : Int64) (w_bytes_q1 : Addr) (z_q1 : Int32) (kc_w_bytes_q1 : ClassId) (w0_w_bytes_q1 : Int32) (w1_w_bytes_q1 : Int32) (w2_w_bytes_q1 : Int32) (w3_w_bytes_q1 : Int32) {h0 : Heap} {n0 : Nat} (Z0 : n0 ≤ h0.size) {T0 : State} {L0 : List Loc} (X0 : Stand p l e ({ frames := 0, cells := 0, slots := 0, locals := 0 } : Room) s m args below meth c T0 L0 0 0) (N0 : Fr n0 L0) (e0 : T0.heap = h0) (E_q1 : Exa Z h0 q1 "com/example/typewire/typewire/packet/BitInput") (F_bytes_q1 : Fld Z h0 q1 "com/example/typewire/typewire/packet/BitInput" "bytes" "[B" (.ref w_bytes_q1)) (F_position_q1 : Fld Z h0 q1 "com/example/typewire/typewire/packet/BitInput" "position" "J" (.long (32 : Int64))) (A_w_bytes_q1 : Arv Z h0 w_bytes_q1 kc_w_bytes_q1 .byte z_q1 [(.int w0_w_bytes_q1), (.int w1_w_bytes_q1), (.int w2_w_bytes_q1), (.int w3_w_bytes_q1)] (.int (0 : Int32))) (hz4 : 0 ≤ z_q1.toInt ∧ z_q1.toInt ≤ 4) :
    own_Fin p.tables e below (own_End below s (own_P h0 n0 (some (.long (own_f3s4 q2 q3 z_q1 w0_w_bytes_q1 w1_w_bytes_q1 w2_w_bytes_q1 w3_w_bytes_q1)))) 0 0) T0 (mkF m 0 #[.val (.ref q1), .val (.int q2), .val (.long q3), .second, .unset, .unset, .unset, .unset, .unset, .unset] []) := by
  refine own_aloadN X0 hx (hb hby d3_0) (pc' := 1) rfl rfl rfl ?_
  refine own_getF X0 hx hZ hown (hw _ (List.mem_of_getElem? (i := 18) rfl)) Via.refl e0 F_position_q1 (hb hby d3_1) (pc' := 4) rfl (fun T218 X218 e218 => ?_)
  refine own_ldc2Long X218 hx hZ hown (hw _ (List.mem_of_getElem? (i := 20) rfl)) (hb hby d3_4) (pc' := 7) rfl ?_
  refine own_ldiv X218 hx (hb hby d3_7) (pc' := 8) rfl (by decide) ?_
  show own_Fin _ _ _ _ T218 (mkF m 8 #[.val (.ref q1), .val (.int q2), .val (.long q3), .second, .unset, .unset, .unset, .unset, .unset, .unset] [(.long (4 : Int64))])
  refine own_l2i X218 hx (hb hby d3_8) (pc' := 9) rfl ?_
  show own_Fin _ _ _ _ T218 (mkF m 9 #[.val (.ref q1), .val (.int q2), .val (.long q3), .second, .unset, .unset, .unset, .unset, .unset, .unset] [(.int (4 : Int32))])
  refine own_istore X218 hx (hb hby d3_9) (pc' := 11) rfl (Ls' := #[.val (.ref q1), .val (.int q2), .val (.long q3), .second, .val (.int (4 : Int32)), .unset, .unset, .unset, .unset, .unset]) rfl ?_
  refine own_lloadN X218 hx (hb hby d3_11) (pc' := 12) rfl rfl ?_
  refine own_aloadN X218 hx (hb hby d3_12) (pc' := 13) rfl rfl rfl ?_
  refine own_getF X218 hx hZ hown (hw _ (List.mem_of_getElem? (i := 11) rfl)) Via.refl e218 F_bytes_q1 (hb hby d3_13) (pc' := 16) rfl (fun T219 X219 e219 => ?_)
  obtain ⟨cl220, Ar220, qa220, S220, M220, H220, G220⟩ := id A_w_bytes_q1
  refine own_st ?_ (fun t k => X219.arraylength hx (by rw [e219]; exact Ar220.1) (State.isArrayOf_alike hZ.alike Ar220.2.1) (g := (mkF m 16 #[.val (.ref q1), .val (.int q2), .val (.long q3), .second, .val (.int (4 : Int32)), .unset, .unset, .unset, .unset, .unset] [(.ref w_bytes_q1), (.long q3)])) rfl rfl (hb hby d3_16) t k)
  rw [len_of S220 M220]
  show own_Fin _ _ _ _ T219 (mkF m 17 #[.val (.ref q1), .val (.int q2), .val (.long q3), .second, .val (.int (4 : Int32)), .unset, .unset, .unset, .unset, .unset] [(.int z_q1), (.long q3)])
  refine own_iload X219 hx (hb hby d3_17) (pc' := 19) rfl rfl ?_
  refine own_isub X219 hx (hb hby d3_19) (pc' := 20) rfl ?_
  refine own_i2l X219 hx (hb hby d3_20) (pc' := 21) rfl ?_
  refine own_lcmp X219 hx (hb hby d3_21) (pc' := 22) rfl ?_
  by_cases hc221 : q3 < ((z_q1 - (4 : Int32)).toInt64)
  · refine own_ifNo X219 hx (hb hby d3_22) (pc' := 25) rfl ((if0 _ _).trans (tlt (own_lc_lt.mpr hc221)).2.1) ?_
    refine own_iload X219 hx (hb hby d3_25) (pc' := 27) rfl rfl ?_
    refine own_i2l X219 hx (hb hby d3_27) (pc' := 28) rfl ?_
    show own_Fin _ _ _ _ T219 (mkF m 28 #[.val (.ref q1), .val (.int q2), .val (.long q3), .second, .val (.int (4 : Int32)), .unset, .unset, .unset, .unset, .unset] [(.long (4 : Int64))])
    refine own_lloadN X219 hx (hb hby d3_28) (pc' := 29) rfl rfl ?_
    refine own_ladd X219 hx (hb hby d3_29) (pc' := 30) rfl ?_
    refine own_lconst X219 hx (hb hby d3_30) (pc' := 31) rfl (v := (1 : Int64)) rfl ?_
    refine own_ladd X219 hx (hb hby d3_31) (pc' := 32) rfl ?_
    refine own_goto X219 hx (hb hby d3_32) (pc' := 41) (by decide) (by decide) ?_
    refine own_lstore X219 hx (hb hby d3_41) (pc' := 43) rfl (Ls' := #[.val (.ref q1), .val (.int q2), .val (.long q3), .second, .val (.int (4 : Int32)), .val (.long (((4 : Int64) + q3) + (1 : Int64))), .second, .unset, .unset, .unset]) rfl ?_
    have hE : ¬ ((4 : Int64) < (((4 : Int64) + q3) + (1 : Int64))) := own_out2 (k := (4 : Int32)) hz4 (by decide) hc221
    refine own_ldc2Long X219 hx hZ hown (hw _ (List.mem_of_getElem? (i := 21) rfl)) (hb hby d3_43) (pc' := 46) rfl ?_
    refine own_lstore X219 hx (hb hby d3_46) (pc' := 48) rfl (Ls' := #[.val (.ref q1), .val (.int q2), .val (.long q3), .second, .val (.int (4 : Int32)), .val (.long (((4 : Int64) + q3) + (1 : Int64))), .second, .val (.long (-1 : Int64)), .second, .unset]) rfl ?_
    refine own_iload X219 hx (hb hby d3_48) (pc' := 50) rfl rfl ?_
    refine own_istore X219 hx (hb hby d3_50) (pc' := 52) rfl (Ls' := #[.val (.ref q1), .val (.int q2), .val (.long q3), .second, .val (.int (4 : Int32)), .val (.long (((4 : Int64) + q3) + (1 : Int64))), .second, .val (.long (-1 : Int64)), .second, .val (.int (4 : Int32))]) rfl ?_
    refine own_iload X219 hx (hb hby d3_52) (pc' := 54) rfl rfl ?_
    refine own_i2l X219 hx (hb hby d3_54) (pc' := 55) rfl ?_
    show own_Fin _ _ _ _ T219 (mkF m 55 #[.val (.ref q1), .val (.int q2), .val (.long q3), .second, .val (.int (4 : Int32)), .val (.long (((4 : Int64) + q3) + (1 : Int64))), .second, .val (.long (-1 : Int64)), .second, .val (.int (4 : Int32))] [(.long (4 : Int64))])
    refine own_lload X219 hx (hb hby d3_55) (pc' := 57) rfl rfl ?_
    refine own_lcmp X219 hx (hb hby d3_57) (pc' := 58) rfl ?_
    refine own_ifYes X219 hx (hb hby d3_58) ((if0 _ _).trans (flt (mt own_lc_lt.mp hE)).2.1) (pc' := 97) (by decide) (by decide) ?_
    refine own_lload X219 hx (hb hby d3_97) (pc' := 99) rfl rfl ?_
    refine own_retJ X219 hx hret hlk (hb hby d3_99) (by decide) (by decide) ?_
    show own_P _ _ _ _ T219.heap _
    exact ⟨(congrArg some (congrArg Value.long (show (-1 : Int64) = (own_f3s4 q2 q3 z_q1 w0_w_bytes_q1 w1_w_bytes_q1 w2_w_bytes_q1 w3_w_bytes_q1) from by rw [own_f3s4, if_pos hc221]))), N0, e219⟩
  · refine own_ifYes X219 hx (hb hby d3_22) ((if0 _ _).trans (flt (mt own_lc_lt.mp hc221)).2.1) (pc' := 35) (by decide) (by decide) ?_
    refine own_aloadN X219 hx (hb hby d3_35) (pc' := 36) rfl rfl rfl ?_
    refine own_getF X219 hx hZ hown (hw _ (List.mem_of_getElem? (i := 11) rfl)) Via.refl e219 F_bytes_q1 (hb hby d3_36) (pc' := 39) rfl (fun T222 X222 e222 => ?_)
    obtain ⟨cl223, Ar223, qa223, S223, M223, H223, G223⟩ := id A_w_bytes_q1
    refine own_st ?_ (fun t k => X222.arraylength hx (by rw [e222]; exact Ar223.1) (State.isArrayOf_alike hZ.alike Ar223.2.1) (g := (mkF m 39 #[.val (.ref q1), .val (.int q2), .val (.long q3), .second, .val (.int (4 : Int32)), .unset, .unset, .unset, .unset, .unset] [(.ref w_bytes_q1)])) rfl rfl (hb hby d3_39) t k)
    rw [len_of S223 M223]
    show own_Fin _ _ _ _ T222 (mkF m 40 #[.val (.ref q1), .val (.int q2), .val (.long q3), .second, .val (.int (4 : Int32)), .unset, .unset, .unset, .unset, .unset] [(.int z_q1)])
    refine own_i2l X222 hx (hb hby d3_40) (pc' := 41) rfl ?_
    refine own_lstore X222 hx (hb hby d3_41) (pc' := 43) rfl (Ls' := #[.val (.ref q1), .val (.int q2), .val (.long q3), .second, .val (.int (4 : Int32)), .val (.long (z_q1.toInt64)), .second, .unset, .unset, .unset]) rfl ?_
    have hE : ¬ ((4 : Int64) < (z_q1.toInt64)) := own_out1 hz4
    refine own_ldc2Long X222 hx hZ hown (hw _ (List.mem_of_getElem? (i := 21) rfl)) (hb hby d3_43) (pc' := 46) rfl ?_
    refine own_lstore X222 hx (hb hby d3_46) (pc' := 48) rfl (Ls' := #[.val (.ref q1), .val (.int q2), .val (.long q3), .second, .val (.int (4 : Int32)), .val (.long (z_q1.toInt64)), .second, .val (.long (-1 : Int64)), .second, .unset]) rfl ?_
    refine own_iload X222 hx (hb hby d3_48) (pc' := 50) rfl rfl ?_
    refine own_istore X222 hx (hb hby d3_50) (pc' := 52) rfl (Ls' := #[.val (.ref q1), .val (.int q2), .val (.long q3), .second, .val (.int (4 : Int32)), .val (.long (z_q1.toInt64)), .second, .val (.long (-1 : Int64)), .second, .val (.int (4 : Int32))]) rfl ?_
    refine own_iload X222 hx (hb hby d3_52) (pc' := 54) rfl rfl ?_
    refine own_i2l X222 hx (hb hby d3_54) (pc' := 55) rfl ?_
    show own_Fin _ _ _ _ T222 (mkF m 55 #[.val (.ref q1), .val (.int q2), .val (.long q3), .second, .val (.int (4 : Int32)), .val (.long (z_q1.toInt64)), .second, .val (.long (-1 : Int64)), .second, .val (.int (4 : Int32))] [(.long (4 : Int64))])
    refine own_lload X222 hx (hb hby d3_55) (pc' := 57) rfl rfl ?_
    refine own_lcmp X222 hx (hb hby d3_57) (pc' := 58) rfl ?_
    refine own_ifYes X222 hx (hb hby d3_58) ((if0 _ _).trans (flt (mt own_lc_lt.mp hE)).2.1) (pc' := 97) (by decide) (by decide) ?_
    refine own_lload X222 hx (hb hby d3_97) (pc' := 99) rfl rfl ?_
    refine own_retJ X222 hx hret hlk (hb hby d3_99) (by decide) (by decide) ?_
    show own_P _ _ _ _ T222.heap _
    exact ⟨(congrArg some (congrArg Value.long (show (-1 : Int64) = (own_f3s4 q2 q3 z_q1 w0_w_bytes_q1 w1_w_bytes_q1 w2_w_bytes_q1 w3_w_bytes_q1) from by rw [own_f3s4, if_neg hc221]))), N0, e222⟩
theorem ef_3s4 (m : MethodId) (q1 : Addr) (q2 : Int32) (q3 : Int64) : entryFrame m #[(.ref q1), (.int q2), (.long q3)] 10 = mkF m 0 #[.val (.ref q1), .val (.int q2), .val (.long q3), .second, .unset, .unset, .unset, .unset, .unset, .unset] [] := by first | (simp [entryFrame, mkF, argsToLocals, Value.category]; done) | rfl
set_option maxRecDepth 65536 in
set_option maxHeartbeats 40000000 in
theorem rm3s4 (l : Launch) (Z : State) (a0 : Array Value) (hw : ∀ d ∈ tables_1, d.before a0 Z = true) (ws : List Jvm.Cond) (q1 : Addr) (q2 : Int32) (q3 : Int64) (w_bytes_q1 : Addr) (z_q1 : Int32) (kc_w_bytes_q1 : ClassId) (w0_w_bytes_q1 : Int32) (w1_w_bytes_q1 : Int32) (w2_w_bytes_q1 : Int32) (w3_w_bytes_q1 : Int32) (h0 : Heap) (n0 : Nat) (Z0 : n0 ≤ h0.size) (E_q1 : Exa Z h0 q1 "com/example/typewire/typewire/packet/BitInput") (F_bytes_q1 : Fld Z h0 q1 "com/example/typewire/typewire/packet/BitInput" "bytes" "[B" (.ref w_bytes_q1)) (F_position_q1 : Fld Z h0 q1 "com/example/typewire/typewire/packet/BitInput" "position" "J" (.long (32 : Int64))) (A_w_bytes_q1 : Arv Z h0 w_bytes_q1 kc_w_bytes_q1 .byte z_q1 [(.int w0_w_bytes_q1), (.int w1_w_bytes_q1), (.int w2_w_bytes_q1), (.int w3_w_bytes_q1)] (.int (0 : Int32))) (hz4 : 0 ≤ z_q1.toInt ∧ z_q1.toInt ≤ 4) :
    MetFree l (⟨"com/example/typewire/typewire/packet/BitInput", "bytesBefore", "(IJ)J"⟩ : MethodName) (head1 (Jvm.Cond.code (⟨"com/example/typewire/typewire/packet/BitInput", "bytesBefore", "(IJ)J"⟩ : MethodName) prog_12_method_5_code 10 (some .long) :: ws) ({ frames := 0, cells := 0, slots := 0, locals := 0 } : Room)) (fun a U => a = #[(.ref q1), (.int q2), (.long q3)] ∧ Z.Warmed39 U.vm ∧ U.heap = h0) (fun _ _ _ _ _ => True) (fun _ U o U' => ∃ v L, o = .returned v ∧ (own_P h0 n0 (some (.long (own_f3s4 q2 q3 z_q1 w0_w_bytes_q1 w1_w_bytes_q1 w2_w_bytes_q1 w3_w_bytes_q1)))) v U'.heap L ∧ FrameEnd U o U' L ({ frames := 0, cells := 0, slots := 0, locals := 0 } : Room).cells ({ frames := 0, cells := 0, slots := 0, locals := 0 } : Room).slots) := by
  refine MetFree.of_bodySF (plainFor_of_name pn_3) hisR ?_
  intro p e s m args below meth c s₁ Bd hml0 hP hK
  obtain ⟨rfl, hZ, hh⟩ := hP
  have hown : s.vm.findClass "com/example/typewire/typewire/packet/BitInput" = some m.cls := findClass_of_methodNamed Bd.named
  have hnm := (name_of_methodNamed Bd.named Bd.method).1
  have X0 : Stand p l e ({ frames := 0, cells := 0, slots := 0, locals := 0 } : Room) s m #[(.ref q1), (.int q2), (.long q3)] below meth c s₁ [] 0 0 := Stand.of_body Bd
  have e0 : s₁.heap = h0 := by rw [← hh, Bd.state]; rfl
  have H := sg3s4_0 l hw Bd.exec hZ Bd.bytes hml0 hown hnm Bd.returns Bd.notSynchronized q1 q2 q3 w_bytes_q1 z_q1 kc_w_bytes_q1 w0_w_bytes_q1 w1_w_bytes_q1 w2_w_bytes_q1 w3_w_bytes_q1 Z0 X0 (Fr.nil n0) e0 E_q1 F_bytes_q1 F_position_q1 A_w_bytes_q1 hz4
  obtain ⟨t, h1, h2, o, h3, h4⟩ := H
  exact ⟨t, o, castTop (ef_3s4 m q1 q2 q3) h1, h2, h3, h4⟩
theorem d5_0 : decode method_3_code 0 = .ok (.iload 6, 2) := by decide +kernel
theorem d5_2 : decode method_3_code 2 = .ok (.iload_n 2, 1) := by decide +kernel
theorem d5_3 : decode method_3_code 3 = .ok (.if_icmp .lt 36, 3) := by decide +kernel
theorem d5_6 : decode method_3_code 6 = .ok (.iload 6, 2) := by decide +kernel
theorem d5_8 : decode method_3_code 8 = .ok (.iload_n 1, 1) := by decide +kernel
theorem d5_9 : decode method_3_code 9 = .ok (.if_icmp .ge 30, 3) := by decide +kernel
theorem d5_12 : decode method_3_code 12 = .ok (.iload 6, 2) := by decide +kernel
theorem d5_14 : decode method_3_code 14 = .ok (.iload_n 2, 1) := by decide +kernel
theorem d5_15 : decode method_3_code 15 = .ok (.isub, 1) := by decide +kernel
theorem d5_16 : decode method_3_code 16 = .ok (.i2l, 1) := by decide +kernel
theorem d5_17 : decode method_3_code 17 = .ok (.lload 4, 2) := by decide +kernel
theorem d5_19 : decode method_3_code 19 = .ok (.lcmp, 1) := by decide +kernel
theorem d5_20 : decode method_3_code 20 = .ok (.ifCond .gt 19, 3) := by decide +kernel
theorem d5_23 : decode method_3_code 23 = .ok (.aload_n 0, 1) := by decide +kernel
theorem d5_24 : decode method_3_code 24 = .ok (.iload 6, 2) := by decide +kernel
theorem d5_26 : decode method_3_code 26 = .ok (.baload, 1) := by decide +kernel
theorem d5_27 : decode method_3_code 27 = .ok (.sipush 255, 3) := by decide +kernel
theorem d5_30 : decode method_3_code 30 = .ok (.iand, 1) := by decide +kernel
theorem d5_31 : decode method_3_code 31 = .ok (.iload_n 3, 1) := by decide +kernel
theorem d5_32 : decode method_3_code 32 = .ok (.if_icmp .ne 7, 3) := by decide +kernel
theorem d5_35 : decode method_3_code 35 = .ok (.iconst 1, 1) := by decide +kernel
theorem d5_36 : decode method_3_code 36 = .ok (.goto 4, 3) := by decide +kernel
theorem d5_39 : decode method_3_code 39 = .ok (.iconst 0, 1) := by decide +kernel
theorem d5_40 : decode method_3_code 40 = .ok (.ireturn, 1) := by decide +kernel
theorem pn_5 : plainName "com/example/typewire/typewire/packet/BitInputBytesBeforePinLaw" = true := by first | (simp [plainName, overriddenIn]; done) | decide +kernel
def own_f5i0 (q2 : Int32) (q3 : Int32) (q4 : Int32) (q5 : Int64) (w0_q1 : Int32) (w1_q1 : Int32) (w2_q1 : Int32) (w3_q1 : Int32) : Int32 :=
  if (0 : Int32) < q3 then (0 : Int32) else
  if (0 : Int32) < q2 then (if q5 < (((0 : Int32) - q3).toInt64) then (0 : Int32) else
    if (w0_q1 &&& (255 : Int32)) = q4 then (1 : Int32) else
    (0 : Int32)) else
  (0 : Int32)
set_option maxRecDepth 65536 in
set_option maxHeartbeats 40000000 in
theorem sg5i0_0 {p : Program} (l : Launch) {e : Env} {s : State} {m : MethodId} {args : Array Value} {below : List Frame} {meth : Method} {c : Code} {Z : State} {a0 : Array Value} (hw : ∀ d ∈ tables_1, d.before a0 Z = true) (hx : p.tables.exec = Jvm.exec) (hZ : Z.Warmed39 s.vm) (hby : c.code = method_3_code) (hml : c.maxLocals = 7) (hown : s.vm.findClass "com/example/typewire/typewire/packet/BitInputBytesBeforePinLaw" = some m.cls) (hnm : meth.name = "hit") (hret : meth.sig.returnType = (some .boolean)) (hlk : meth.locks = false) (q1 : Addr) (q2 : Int32) (q3 : Int32) (q4 : Int32) (q5 : Int64) (kc_q1 : ClassId) (w0_q1 : Int32) (w1_q1 : Int32) (w2_q1 : Int32) (w3_q1 : Int32) {h0 : Heap} {n0 : Nat} (Z0 : n0 ≤ h0.size) {T0 : State} {L0 : List Loc} (X0 : Stand p l e ({ frames := 0, cells := 0, slots := 0, locals := 0 } : Room) s m args below meth c T0 L0 0 0) (N0 : Fr n0 L0) (e0 : T0.heap = h0) (A_q1 : Arv Z h0 q1 kc_q1 .byte q2 [(.int w0_q1), (.int w1_q1), (.int w2_q1), (.int w3_q1)] (.int (0 : Int32))) :
    own_Fin p.tables e below (own_End below s (own_P h0 n0 (some (.int (own_f5i0 q2 q3 q4 q5 w0_q1 w1_q1 w2_q1 w3_q1)))) 0 0) T0 (mkF m 0 #[.val (.ref q1), .val (.int q2), .val (.int q3), .val (.int q4), .val (.long q5), .second, .val (.int (0 : Int32))] []) := by
  refine own_iload X0 hx (hb hby d5_0) (pc' := 2) rfl rfl ?_
  refine own_iloadN X0 hx (hb hby d5_2) (pc' := 3) rfl rfl ?_
  by_cases hc224 : (0 : Int32) < q3
  · refine own_icmpYes X0 hx (hb hby d5_3) (tlt hc224).1 (pc' := 39) (by decide) (by decide) ?_
    refine own_iconst X0 hx (hb hby d5_39) (pc' := 40) rfl (v := (0 : Int32)) rfl ?_
    refine own_retN X0 hx (t := .boolean) hret (by simp) hlk (hb hby d5_40) (by decide) (by decide) ?_
    show own_P _ _ _ _ T0.heap _
    exact ⟨(congrArg some (congrArg Value.int (show _ = (own_f5i0 q2 q3 q4 q5 w0_q1 w1_q1 w2_q1 w3_q1) from by rw [own_f5i0, if_pos hc224]; rfl))), N0, e0⟩
  · refine own_icmpNo X0 hx (hb hby d5_3) (pc' := 6) rfl (flt hc224).1 ?_
    refine own_iload X0 hx (hb hby d5_6) (pc' := 8) rfl rfl ?_
    refine own_iloadN X0 hx (hb hby d5_8) (pc' := 9) rfl rfl ?_
    by_cases hc225 : (0 : Int32) < q2
    · refine own_icmpNo X0 hx (hb hby d5_9) (pc' := 12) rfl (tlt hc225).2.1 ?_
      refine own_iload X0 hx (hb hby d5_12) (pc' := 14) rfl rfl ?_
      refine own_iloadN X0 hx (hb hby d5_14) (pc' := 15) rfl rfl ?_
      refine own_isub X0 hx (hb hby d5_15) (pc' := 16) rfl ?_
      refine own_i2l X0 hx (hb hby d5_16) (pc' := 17) rfl ?_
      refine own_lload X0 hx (hb hby d5_17) (pc' := 19) rfl rfl ?_
      refine own_lcmp X0 hx (hb hby d5_19) (pc' := 20) rfl ?_
      by_cases hc226 : q5 < (((0 : Int32) - q3).toInt64)
      · refine own_ifYes X0 hx (hb hby d5_20) ((if0 _ _).trans (tlt (own_lc_gt.mpr hc226)).2.2.1) (pc' := 39) (by decide) (by decide) ?_
        refine own_iconst X0 hx (hb hby d5_39) (pc' := 40) rfl (v := (0 : Int32)) rfl ?_
        refine own_retN X0 hx (t := .boolean) hret (by simp) hlk (hb hby d5_40) (by decide) (by decide) ?_
        show own_P _ _ _ _ T0.heap _
        exact ⟨(congrArg some (congrArg Value.int (show _ = (own_f5i0 q2 q3 q4 q5 w0_q1 w1_q1 w2_q1 w3_q1) from by rw [own_f5i0, if_neg hc224, if_pos hc225, if_pos hc226]; rfl))), N0, e0⟩
      · refine own_ifNo X0 hx (hb hby d5_20) (pc' := 23) rfl ((if0 _ _).trans (flt (mt own_lc_gt.mp hc226)).2.2.1) ?_
        refine own_aloadN X0 hx (hb hby d5_23) (pc' := 24) rfl rfl rfl ?_
        refine own_iload X0 hx (hb hby d5_24) (pc' := 26) rfl rfl ?_
        obtain ⟨cl227, Ar227, qa227, S227, M227, H227, G227⟩ := id A_q1
        have hin227 : ¬ ((0 : Int32) < 0 ∨ cl227.slots.size ≤ ((0 : Int32)).toNatClampNeg) := inb_of S227 ⟨by decide, hc225⟩
        refine own_st ?_ (fun t k => X0.baloadBytes hx (j := (0 : Int32)) (v := (.int w0_q1)) (by rw [e0]; exact Ar227.1) (State.isArrayOf_alike hZ.alike Ar227.2.1) Ar227.2.2 hin227 (Has.at H227 hin227 rfl) (g := (mkF m 26 #[.val (.ref q1), .val (.int q2), .val (.int q3), .val (.int q4), .val (.long q5), .second, .val (.int (0 : Int32))] [(.int (0 : Int32)), (.ref q1)])) rfl rfl (hb hby d5_26) t k)
        show own_Fin _ _ _ _ T0 (mkF m 27 #[.val (.ref q1), .val (.int q2), .val (.int q3), .val (.int q4), .val (.long q5), .second, .val (.int (0 : Int32))] [(.int w0_q1)])
        refine own_sipush X0 hx (hb hby d5_27) (pc' := 30) rfl (v := (255 : Int32)) rfl ?_
        refine own_iand X0 hx (hb hby d5_30) (pc' := 31) rfl ?_
        refine own_iloadN X0 hx (hb hby d5_31) (pc' := 32) rfl rfl ?_
        by_cases hc228 : (w0_q1 &&& (255 : Int32)) = q4
        · refine own_icmpNo X0 hx (hb hby d5_32) (pc' := 35) rfl (teq hc228).2 ?_
          refine own_iconst X0 hx (hb hby d5_35) (pc' := 36) rfl (v := (1 : Int32)) rfl ?_
          refine own_goto X0 hx (hb hby d5_36) (pc' := 40) (by decide) (by decide) ?_
          refine own_retN X0 hx (t := .boolean) hret (by simp) hlk (hb hby d5_40) (by decide) (by decide) ?_
          show own_P _ _ _ _ T0.heap _
          exact ⟨(congrArg some (congrArg Value.int (show _ = (own_f5i0 q2 q3 q4 q5 w0_q1 w1_q1 w2_q1 w3_q1) from by rw [own_f5i0, if_neg hc224, if_pos hc225, if_neg hc226, if_pos hc228]; rfl))), N0, e0⟩
        · refine own_icmpYes X0 hx (hb hby d5_32) (feq hc228).2 (pc' := 39) (by decide) (by decide) ?_
          refine own_iconst X0 hx (hb hby d5_39) (pc' := 40) rfl (v := (0 : Int32)) rfl ?_
          refine own_retN X0 hx (t := .boolean) hret (by simp) hlk (hb hby d5_40) (by decide) (by decide) ?_
          show own_P _ _ _ _ T0.heap _
          exact ⟨(congrArg some (congrArg Value.int (show _ = (own_f5i0 q2 q3 q4 q5 w0_q1 w1_q1 w2_q1 w3_q1) from by rw [own_f5i0, if_neg hc224, if_pos hc225, if_neg hc226, if_neg hc228]; rfl))), N0, e0⟩
    · refine own_icmpYes X0 hx (hb hby d5_9) (flt hc225).2.1 (pc' := 39) (by decide) (by decide) ?_
      refine own_iconst X0 hx (hb hby d5_39) (pc' := 40) rfl (v := (0 : Int32)) rfl ?_
      refine own_retN X0 hx (t := .boolean) hret (by simp) hlk (hb hby d5_40) (by decide) (by decide) ?_
      show own_P _ _ _ _ T0.heap _
      exact ⟨(congrArg some (congrArg Value.int (show _ = (own_f5i0 q2 q3 q4 q5 w0_q1 w1_q1 w2_q1 w3_q1) from by rw [own_f5i0, if_neg hc224, if_neg hc225]; rfl))), N0, e0⟩
theorem ef_5i0 (m : MethodId) (q1 : Addr) (q2 : Int32) (q3 : Int32) (q4 : Int32) (q5 : Int64) : entryFrame m #[(.ref q1), (.int q2), (.int q3), (.int q4), (.long q5), (.int (0 : Int32))] 7 = mkF m 0 #[.val (.ref q1), .val (.int q2), .val (.int q3), .val (.int q4), .val (.long q5), .second, .val (.int (0 : Int32))] [] := by first | (simp [entryFrame, mkF, argsToLocals, Value.category]; done) | rfl
set_option maxRecDepth 65536 in
set_option maxHeartbeats 40000000 in
theorem rm5i0 (l : Launch) (Z : State) (a0 : Array Value) (hw : ∀ d ∈ tables_1, d.before a0 Z = true) (ws : List Jvm.Cond) (q1 : Addr) (q2 : Int32) (q3 : Int32) (q4 : Int32) (q5 : Int64) (kc_q1 : ClassId) (w0_q1 : Int32) (w1_q1 : Int32) (w2_q1 : Int32) (w3_q1 : Int32) (h0 : Heap) (n0 : Nat) (Z0 : n0 ≤ h0.size) (A_q1 : Arv Z h0 q1 kc_q1 .byte q2 [(.int w0_q1), (.int w1_q1), (.int w2_q1), (.int w3_q1)] (.int (0 : Int32))) :
    MetFree l (⟨"com/example/typewire/typewire/packet/BitInputBytesBeforePinLaw", "hit", "([BIIIJI)Z"⟩ : MethodName) (head1 (Jvm.Cond.code (⟨"com/example/typewire/typewire/packet/BitInputBytesBeforePinLaw", "hit", "([BIIIJI)Z"⟩ : MethodName) method_3_code 7 (some .boolean) :: ws) ({ frames := 0, cells := 0, slots := 0, locals := 0 } : Room)) (fun a U => a = #[(.ref q1), (.int q2), (.int q3), (.int q4), (.long q5), (.int (0 : Int32))] ∧ Z.Warmed39 U.vm ∧ U.heap = h0) (fun _ _ _ _ _ => True) (fun _ U o U' => ∃ v L, o = .returned v ∧ (own_P h0 n0 (some (.int (own_f5i0 q2 q3 q4 q5 w0_q1 w1_q1 w2_q1 w3_q1)))) v U'.heap L ∧ FrameEnd U o U' L ({ frames := 0, cells := 0, slots := 0, locals := 0 } : Room).cells ({ frames := 0, cells := 0, slots := 0, locals := 0 } : Room).slots) := by
  refine MetFree.of_bodySF (plainFor_of_name pn_5) hisR ?_
  intro p e s m args below meth c s₁ Bd hml0 hP hK
  obtain ⟨rfl, hZ, hh⟩ := hP
  have hown : s.vm.findClass "com/example/typewire/typewire/packet/BitInputBytesBeforePinLaw" = some m.cls := findClass_of_methodNamed Bd.named
  have hnm := (name_of_methodNamed Bd.named Bd.method).1
  have X0 : Stand p l e ({ frames := 0, cells := 0, slots := 0, locals := 0 } : Room) s m #[(.ref q1), (.int q2), (.int q3), (.int q4), (.long q5), (.int (0 : Int32))] below meth c s₁ [] 0 0 := Stand.of_body Bd
  have e0 : s₁.heap = h0 := by rw [← hh, Bd.state]; rfl
  have H := sg5i0_0 l hw Bd.exec hZ Bd.bytes hml0 hown hnm Bd.returns Bd.notSynchronized q1 q2 q3 q4 q5 kc_q1 w0_q1 w1_q1 w2_q1 w3_q1 Z0 X0 (Fr.nil n0) e0 A_q1
  obtain ⟨t, h1, h2, o, h3, h4⟩ := H
  exact ⟨t, o, castTop (ef_5i0 m q1 q2 q3 q4 q5) h1, h2, h3, h4⟩
def own_f5i1 (q2 : Int32) (q3 : Int32) (q4 : Int32) (q5 : Int64) (w0_q1 : Int32) (w1_q1 : Int32) (w2_q1 : Int32) (w3_q1 : Int32) : Int32 :=
  if (1 : Int32) < q3 then (0 : Int32) else
  if (1 : Int32) < q2 then (if q5 < (((1 : Int32) - q3).toInt64) then (0 : Int32) else
    if (w1_q1 &&& (255 : Int32)) = q4 then (1 : Int32) else
    (0 : Int32)) else
  (0 : Int32)
set_option maxRecDepth 65536 in
set_option maxHeartbeats 40000000 in
theorem sg5i1_0 {p : Program} (l : Launch) {e : Env} {s : State} {m : MethodId} {args : Array Value} {below : List Frame} {meth : Method} {c : Code} {Z : State} {a0 : Array Value} (hw : ∀ d ∈ tables_1, d.before a0 Z = true) (hx : p.tables.exec = Jvm.exec) (hZ : Z.Warmed39 s.vm) (hby : c.code = method_3_code) (hml : c.maxLocals = 7) (hown : s.vm.findClass "com/example/typewire/typewire/packet/BitInputBytesBeforePinLaw" = some m.cls) (hnm : meth.name = "hit") (hret : meth.sig.returnType = (some .boolean)) (hlk : meth.locks = false) (q1 : Addr) (q2 : Int32) (q3 : Int32) (q4 : Int32) (q5 : Int64) (kc_q1 : ClassId) (w0_q1 : Int32) (w1_q1 : Int32) (w2_q1 : Int32) (w3_q1 : Int32) {h0 : Heap} {n0 : Nat} (Z0 : n0 ≤ h0.size) {T0 : State} {L0 : List Loc} (X0 : Stand p l e ({ frames := 0, cells := 0, slots := 0, locals := 0 } : Room) s m args below meth c T0 L0 0 0) (N0 : Fr n0 L0) (e0 : T0.heap = h0) (A_q1 : Arv Z h0 q1 kc_q1 .byte q2 [(.int w0_q1), (.int w1_q1), (.int w2_q1), (.int w3_q1)] (.int (0 : Int32))) :
    own_Fin p.tables e below (own_End below s (own_P h0 n0 (some (.int (own_f5i1 q2 q3 q4 q5 w0_q1 w1_q1 w2_q1 w3_q1)))) 0 0) T0 (mkF m 0 #[.val (.ref q1), .val (.int q2), .val (.int q3), .val (.int q4), .val (.long q5), .second, .val (.int (1 : Int32))] []) := by
  refine own_iload X0 hx (hb hby d5_0) (pc' := 2) rfl rfl ?_
  refine own_iloadN X0 hx (hb hby d5_2) (pc' := 3) rfl rfl ?_
  by_cases hc229 : (1 : Int32) < q3
  · refine own_icmpYes X0 hx (hb hby d5_3) (tlt hc229).1 (pc' := 39) (by decide) (by decide) ?_
    refine own_iconst X0 hx (hb hby d5_39) (pc' := 40) rfl (v := (0 : Int32)) rfl ?_
    refine own_retN X0 hx (t := .boolean) hret (by simp) hlk (hb hby d5_40) (by decide) (by decide) ?_
    show own_P _ _ _ _ T0.heap _
    exact ⟨(congrArg some (congrArg Value.int (show _ = (own_f5i1 q2 q3 q4 q5 w0_q1 w1_q1 w2_q1 w3_q1) from by rw [own_f5i1, if_pos hc229]; rfl))), N0, e0⟩
  · refine own_icmpNo X0 hx (hb hby d5_3) (pc' := 6) rfl (flt hc229).1 ?_
    refine own_iload X0 hx (hb hby d5_6) (pc' := 8) rfl rfl ?_
    refine own_iloadN X0 hx (hb hby d5_8) (pc' := 9) rfl rfl ?_
    by_cases hc230 : (1 : Int32) < q2
    · refine own_icmpNo X0 hx (hb hby d5_9) (pc' := 12) rfl (tlt hc230).2.1 ?_
      refine own_iload X0 hx (hb hby d5_12) (pc' := 14) rfl rfl ?_
      refine own_iloadN X0 hx (hb hby d5_14) (pc' := 15) rfl rfl ?_
      refine own_isub X0 hx (hb hby d5_15) (pc' := 16) rfl ?_
      refine own_i2l X0 hx (hb hby d5_16) (pc' := 17) rfl ?_
      refine own_lload X0 hx (hb hby d5_17) (pc' := 19) rfl rfl ?_
      refine own_lcmp X0 hx (hb hby d5_19) (pc' := 20) rfl ?_
      by_cases hc231 : q5 < (((1 : Int32) - q3).toInt64)
      · refine own_ifYes X0 hx (hb hby d5_20) ((if0 _ _).trans (tlt (own_lc_gt.mpr hc231)).2.2.1) (pc' := 39) (by decide) (by decide) ?_
        refine own_iconst X0 hx (hb hby d5_39) (pc' := 40) rfl (v := (0 : Int32)) rfl ?_
        refine own_retN X0 hx (t := .boolean) hret (by simp) hlk (hb hby d5_40) (by decide) (by decide) ?_
        show own_P _ _ _ _ T0.heap _
        exact ⟨(congrArg some (congrArg Value.int (show _ = (own_f5i1 q2 q3 q4 q5 w0_q1 w1_q1 w2_q1 w3_q1) from by rw [own_f5i1, if_neg hc229, if_pos hc230, if_pos hc231]; rfl))), N0, e0⟩
      · refine own_ifNo X0 hx (hb hby d5_20) (pc' := 23) rfl ((if0 _ _).trans (flt (mt own_lc_gt.mp hc231)).2.2.1) ?_
        refine own_aloadN X0 hx (hb hby d5_23) (pc' := 24) rfl rfl rfl ?_
        refine own_iload X0 hx (hb hby d5_24) (pc' := 26) rfl rfl ?_
        obtain ⟨cl232, Ar232, qa232, S232, M232, H232, G232⟩ := id A_q1
        have hin232 : ¬ ((1 : Int32) < 0 ∨ cl232.slots.size ≤ ((1 : Int32)).toNatClampNeg) := inb_of S232 ⟨by decide, hc230⟩
        refine own_st ?_ (fun t k => X0.baloadBytes hx (j := (1 : Int32)) (v := (.int w1_q1)) (by rw [e0]; exact Ar232.1) (State.isArrayOf_alike hZ.alike Ar232.2.1) Ar232.2.2 hin232 (Has.at H232 hin232 rfl) (g := (mkF m 26 #[.val (.ref q1), .val (.int q2), .val (.int q3), .val (.int q4), .val (.long q5), .second, .val (.int (1 : Int32))] [(.int (1 : Int32)), (.ref q1)])) rfl rfl (hb hby d5_26) t k)
        show own_Fin _ _ _ _ T0 (mkF m 27 #[.val (.ref q1), .val (.int q2), .val (.int q3), .val (.int q4), .val (.long q5), .second, .val (.int (1 : Int32))] [(.int w1_q1)])
        refine own_sipush X0 hx (hb hby d5_27) (pc' := 30) rfl (v := (255 : Int32)) rfl ?_
        refine own_iand X0 hx (hb hby d5_30) (pc' := 31) rfl ?_
        refine own_iloadN X0 hx (hb hby d5_31) (pc' := 32) rfl rfl ?_
        by_cases hc233 : (w1_q1 &&& (255 : Int32)) = q4
        · refine own_icmpNo X0 hx (hb hby d5_32) (pc' := 35) rfl (teq hc233).2 ?_
          refine own_iconst X0 hx (hb hby d5_35) (pc' := 36) rfl (v := (1 : Int32)) rfl ?_
          refine own_goto X0 hx (hb hby d5_36) (pc' := 40) (by decide) (by decide) ?_
          refine own_retN X0 hx (t := .boolean) hret (by simp) hlk (hb hby d5_40) (by decide) (by decide) ?_
          show own_P _ _ _ _ T0.heap _
          exact ⟨(congrArg some (congrArg Value.int (show _ = (own_f5i1 q2 q3 q4 q5 w0_q1 w1_q1 w2_q1 w3_q1) from by rw [own_f5i1, if_neg hc229, if_pos hc230, if_neg hc231, if_pos hc233]; rfl))), N0, e0⟩
        · refine own_icmpYes X0 hx (hb hby d5_32) (feq hc233).2 (pc' := 39) (by decide) (by decide) ?_
          refine own_iconst X0 hx (hb hby d5_39) (pc' := 40) rfl (v := (0 : Int32)) rfl ?_
          refine own_retN X0 hx (t := .boolean) hret (by simp) hlk (hb hby d5_40) (by decide) (by decide) ?_
          show own_P _ _ _ _ T0.heap _
          exact ⟨(congrArg some (congrArg Value.int (show _ = (own_f5i1 q2 q3 q4 q5 w0_q1 w1_q1 w2_q1 w3_q1) from by rw [own_f5i1, if_neg hc229, if_pos hc230, if_neg hc231, if_neg hc233]; rfl))), N0, e0⟩
    · refine own_icmpYes X0 hx (hb hby d5_9) (flt hc230).2.1 (pc' := 39) (by decide) (by decide) ?_
      refine own_iconst X0 hx (hb hby d5_39) (pc' := 40) rfl (v := (0 : Int32)) rfl ?_
      refine own_retN X0 hx (t := .boolean) hret (by simp) hlk (hb hby d5_40) (by decide) (by decide) ?_
      show own_P _ _ _ _ T0.heap _
      exact ⟨(congrArg some (congrArg Value.int (show _ = (own_f5i1 q2 q3 q4 q5 w0_q1 w1_q1 w2_q1 w3_q1) from by rw [own_f5i1, if_neg hc229, if_neg hc230]; rfl))), N0, e0⟩
theorem ef_5i1 (m : MethodId) (q1 : Addr) (q2 : Int32) (q3 : Int32) (q4 : Int32) (q5 : Int64) : entryFrame m #[(.ref q1), (.int q2), (.int q3), (.int q4), (.long q5), (.int (1 : Int32))] 7 = mkF m 0 #[.val (.ref q1), .val (.int q2), .val (.int q3), .val (.int q4), .val (.long q5), .second, .val (.int (1 : Int32))] [] := by first | (simp [entryFrame, mkF, argsToLocals, Value.category]; done) | rfl
set_option maxRecDepth 65536 in
set_option maxHeartbeats 40000000 in
theorem rm5i1 (l : Launch) (Z : State) (a0 : Array Value) (hw : ∀ d ∈ tables_1, d.before a0 Z = true) (ws : List Jvm.Cond) (q1 : Addr) (q2 : Int32) (q3 : Int32) (q4 : Int32) (q5 : Int64) (kc_q1 : ClassId) (w0_q1 : Int32) (w1_q1 : Int32) (w2_q1 : Int32) (w3_q1 : Int32) (h0 : Heap) (n0 : Nat) (Z0 : n0 ≤ h0.size) (A_q1 : Arv Z h0 q1 kc_q1 .byte q2 [(.int w0_q1), (.int w1_q1), (.int w2_q1), (.int w3_q1)] (.int (0 : Int32))) :
    MetFree l (⟨"com/example/typewire/typewire/packet/BitInputBytesBeforePinLaw", "hit", "([BIIIJI)Z"⟩ : MethodName) (head1 (Jvm.Cond.code (⟨"com/example/typewire/typewire/packet/BitInputBytesBeforePinLaw", "hit", "([BIIIJI)Z"⟩ : MethodName) method_3_code 7 (some .boolean) :: ws) ({ frames := 0, cells := 0, slots := 0, locals := 0 } : Room)) (fun a U => a = #[(.ref q1), (.int q2), (.int q3), (.int q4), (.long q5), (.int (1 : Int32))] ∧ Z.Warmed39 U.vm ∧ U.heap = h0) (fun _ _ _ _ _ => True) (fun _ U o U' => ∃ v L, o = .returned v ∧ (own_P h0 n0 (some (.int (own_f5i1 q2 q3 q4 q5 w0_q1 w1_q1 w2_q1 w3_q1)))) v U'.heap L ∧ FrameEnd U o U' L ({ frames := 0, cells := 0, slots := 0, locals := 0 } : Room).cells ({ frames := 0, cells := 0, slots := 0, locals := 0 } : Room).slots) := by
  refine MetFree.of_bodySF (plainFor_of_name pn_5) hisR ?_
  intro p e s m args below meth c s₁ Bd hml0 hP hK
  obtain ⟨rfl, hZ, hh⟩ := hP
  have hown : s.vm.findClass "com/example/typewire/typewire/packet/BitInputBytesBeforePinLaw" = some m.cls := findClass_of_methodNamed Bd.named
  have hnm := (name_of_methodNamed Bd.named Bd.method).1
  have X0 : Stand p l e ({ frames := 0, cells := 0, slots := 0, locals := 0 } : Room) s m #[(.ref q1), (.int q2), (.int q3), (.int q4), (.long q5), (.int (1 : Int32))] below meth c s₁ [] 0 0 := Stand.of_body Bd
  have e0 : s₁.heap = h0 := by rw [← hh, Bd.state]; rfl
  have H := sg5i1_0 l hw Bd.exec hZ Bd.bytes hml0 hown hnm Bd.returns Bd.notSynchronized q1 q2 q3 q4 q5 kc_q1 w0_q1 w1_q1 w2_q1 w3_q1 Z0 X0 (Fr.nil n0) e0 A_q1
  obtain ⟨t, h1, h2, o, h3, h4⟩ := H
  exact ⟨t, o, castTop (ef_5i1 m q1 q2 q3 q4 q5) h1, h2, h3, h4⟩
def own_f5i2 (q2 : Int32) (q3 : Int32) (q4 : Int32) (q5 : Int64) (w0_q1 : Int32) (w1_q1 : Int32) (w2_q1 : Int32) (w3_q1 : Int32) : Int32 :=
  if (2 : Int32) < q3 then (0 : Int32) else
  if (2 : Int32) < q2 then (if q5 < (((2 : Int32) - q3).toInt64) then (0 : Int32) else
    if (w2_q1 &&& (255 : Int32)) = q4 then (1 : Int32) else
    (0 : Int32)) else
  (0 : Int32)
set_option maxRecDepth 65536 in
set_option maxHeartbeats 40000000 in
theorem sg5i2_0 {p : Program} (l : Launch) {e : Env} {s : State} {m : MethodId} {args : Array Value} {below : List Frame} {meth : Method} {c : Code} {Z : State} {a0 : Array Value} (hw : ∀ d ∈ tables_1, d.before a0 Z = true) (hx : p.tables.exec = Jvm.exec) (hZ : Z.Warmed39 s.vm) (hby : c.code = method_3_code) (hml : c.maxLocals = 7) (hown : s.vm.findClass "com/example/typewire/typewire/packet/BitInputBytesBeforePinLaw" = some m.cls) (hnm : meth.name = "hit") (hret : meth.sig.returnType = (some .boolean)) (hlk : meth.locks = false) (q1 : Addr) (q2 : Int32) (q3 : Int32) (q4 : Int32) (q5 : Int64) (kc_q1 : ClassId) (w0_q1 : Int32) (w1_q1 : Int32) (w2_q1 : Int32) (w3_q1 : Int32) {h0 : Heap} {n0 : Nat} (Z0 : n0 ≤ h0.size) {T0 : State} {L0 : List Loc} (X0 : Stand p l e ({ frames := 0, cells := 0, slots := 0, locals := 0 } : Room) s m args below meth c T0 L0 0 0) (N0 : Fr n0 L0) (e0 : T0.heap = h0) (A_q1 : Arv Z h0 q1 kc_q1 .byte q2 [(.int w0_q1), (.int w1_q1), (.int w2_q1), (.int w3_q1)] (.int (0 : Int32))) :
    own_Fin p.tables e below (own_End below s (own_P h0 n0 (some (.int (own_f5i2 q2 q3 q4 q5 w0_q1 w1_q1 w2_q1 w3_q1)))) 0 0) T0 (mkF m 0 #[.val (.ref q1), .val (.int q2), .val (.int q3), .val (.int q4), .val (.long q5), .second, .val (.int (2 : Int32))] []) := by
  refine own_iload X0 hx (hb hby d5_0) (pc' := 2) rfl rfl ?_
  refine own_iloadN X0 hx (hb hby d5_2) (pc' := 3) rfl rfl ?_
  by_cases hc234 : (2 : Int32) < q3
  · refine own_icmpYes X0 hx (hb hby d5_3) (tlt hc234).1 (pc' := 39) (by decide) (by decide) ?_
    refine own_iconst X0 hx (hb hby d5_39) (pc' := 40) rfl (v := (0 : Int32)) rfl ?_
    refine own_retN X0 hx (t := .boolean) hret (by simp) hlk (hb hby d5_40) (by decide) (by decide) ?_
    show own_P _ _ _ _ T0.heap _
    exact ⟨(congrArg some (congrArg Value.int (show _ = (own_f5i2 q2 q3 q4 q5 w0_q1 w1_q1 w2_q1 w3_q1) from by rw [own_f5i2, if_pos hc234]; rfl))), N0, e0⟩
  · refine own_icmpNo X0 hx (hb hby d5_3) (pc' := 6) rfl (flt hc234).1 ?_
    refine own_iload X0 hx (hb hby d5_6) (pc' := 8) rfl rfl ?_
    refine own_iloadN X0 hx (hb hby d5_8) (pc' := 9) rfl rfl ?_
    by_cases hc235 : (2 : Int32) < q2
    · refine own_icmpNo X0 hx (hb hby d5_9) (pc' := 12) rfl (tlt hc235).2.1 ?_
      refine own_iload X0 hx (hb hby d5_12) (pc' := 14) rfl rfl ?_
      refine own_iloadN X0 hx (hb hby d5_14) (pc' := 15) rfl rfl ?_
      refine own_isub X0 hx (hb hby d5_15) (pc' := 16) rfl ?_
      refine own_i2l X0 hx (hb hby d5_16) (pc' := 17) rfl ?_
      refine own_lload X0 hx (hb hby d5_17) (pc' := 19) rfl rfl ?_
      refine own_lcmp X0 hx (hb hby d5_19) (pc' := 20) rfl ?_
      by_cases hc236 : q5 < (((2 : Int32) - q3).toInt64)
      · refine own_ifYes X0 hx (hb hby d5_20) ((if0 _ _).trans (tlt (own_lc_gt.mpr hc236)).2.2.1) (pc' := 39) (by decide) (by decide) ?_
        refine own_iconst X0 hx (hb hby d5_39) (pc' := 40) rfl (v := (0 : Int32)) rfl ?_
        refine own_retN X0 hx (t := .boolean) hret (by simp) hlk (hb hby d5_40) (by decide) (by decide) ?_
        show own_P _ _ _ _ T0.heap _
        exact ⟨(congrArg some (congrArg Value.int (show _ = (own_f5i2 q2 q3 q4 q5 w0_q1 w1_q1 w2_q1 w3_q1) from by rw [own_f5i2, if_neg hc234, if_pos hc235, if_pos hc236]; rfl))), N0, e0⟩
      · refine own_ifNo X0 hx (hb hby d5_20) (pc' := 23) rfl ((if0 _ _).trans (flt (mt own_lc_gt.mp hc236)).2.2.1) ?_
        refine own_aloadN X0 hx (hb hby d5_23) (pc' := 24) rfl rfl rfl ?_
        refine own_iload X0 hx (hb hby d5_24) (pc' := 26) rfl rfl ?_
        obtain ⟨cl237, Ar237, qa237, S237, M237, H237, G237⟩ := id A_q1
        have hin237 : ¬ ((2 : Int32) < 0 ∨ cl237.slots.size ≤ ((2 : Int32)).toNatClampNeg) := inb_of S237 ⟨by decide, hc235⟩
        refine own_st ?_ (fun t k => X0.baloadBytes hx (j := (2 : Int32)) (v := (.int w2_q1)) (by rw [e0]; exact Ar237.1) (State.isArrayOf_alike hZ.alike Ar237.2.1) Ar237.2.2 hin237 (Has.at H237 hin237 rfl) (g := (mkF m 26 #[.val (.ref q1), .val (.int q2), .val (.int q3), .val (.int q4), .val (.long q5), .second, .val (.int (2 : Int32))] [(.int (2 : Int32)), (.ref q1)])) rfl rfl (hb hby d5_26) t k)
        show own_Fin _ _ _ _ T0 (mkF m 27 #[.val (.ref q1), .val (.int q2), .val (.int q3), .val (.int q4), .val (.long q5), .second, .val (.int (2 : Int32))] [(.int w2_q1)])
        refine own_sipush X0 hx (hb hby d5_27) (pc' := 30) rfl (v := (255 : Int32)) rfl ?_
        refine own_iand X0 hx (hb hby d5_30) (pc' := 31) rfl ?_
        refine own_iloadN X0 hx (hb hby d5_31) (pc' := 32) rfl rfl ?_
        by_cases hc238 : (w2_q1 &&& (255 : Int32)) = q4
        · refine own_icmpNo X0 hx (hb hby d5_32) (pc' := 35) rfl (teq hc238).2 ?_
          refine own_iconst X0 hx (hb hby d5_35) (pc' := 36) rfl (v := (1 : Int32)) rfl ?_
          refine own_goto X0 hx (hb hby d5_36) (pc' := 40) (by decide) (by decide) ?_
          refine own_retN X0 hx (t := .boolean) hret (by simp) hlk (hb hby d5_40) (by decide) (by decide) ?_
          show own_P _ _ _ _ T0.heap _
          exact ⟨(congrArg some (congrArg Value.int (show _ = (own_f5i2 q2 q3 q4 q5 w0_q1 w1_q1 w2_q1 w3_q1) from by rw [own_f5i2, if_neg hc234, if_pos hc235, if_neg hc236, if_pos hc238]; rfl))), N0, e0⟩
        · refine own_icmpYes X0 hx (hb hby d5_32) (feq hc238).2 (pc' := 39) (by decide) (by decide) ?_
          refine own_iconst X0 hx (hb hby d5_39) (pc' := 40) rfl (v := (0 : Int32)) rfl ?_
          refine own_retN X0 hx (t := .boolean) hret (by simp) hlk (hb hby d5_40) (by decide) (by decide) ?_
          show own_P _ _ _ _ T0.heap _
          exact ⟨(congrArg some (congrArg Value.int (show _ = (own_f5i2 q2 q3 q4 q5 w0_q1 w1_q1 w2_q1 w3_q1) from by rw [own_f5i2, if_neg hc234, if_pos hc235, if_neg hc236, if_neg hc238]; rfl))), N0, e0⟩
    · refine own_icmpYes X0 hx (hb hby d5_9) (flt hc235).2.1 (pc' := 39) (by decide) (by decide) ?_
      refine own_iconst X0 hx (hb hby d5_39) (pc' := 40) rfl (v := (0 : Int32)) rfl ?_
      refine own_retN X0 hx (t := .boolean) hret (by simp) hlk (hb hby d5_40) (by decide) (by decide) ?_
      show own_P _ _ _ _ T0.heap _
      exact ⟨(congrArg some (congrArg Value.int (show _ = (own_f5i2 q2 q3 q4 q5 w0_q1 w1_q1 w2_q1 w3_q1) from by rw [own_f5i2, if_neg hc234, if_neg hc235]; rfl))), N0, e0⟩
theorem ef_5i2 (m : MethodId) (q1 : Addr) (q2 : Int32) (q3 : Int32) (q4 : Int32) (q5 : Int64) : entryFrame m #[(.ref q1), (.int q2), (.int q3), (.int q4), (.long q5), (.int (2 : Int32))] 7 = mkF m 0 #[.val (.ref q1), .val (.int q2), .val (.int q3), .val (.int q4), .val (.long q5), .second, .val (.int (2 : Int32))] [] := by first | (simp [entryFrame, mkF, argsToLocals, Value.category]; done) | rfl
set_option maxRecDepth 65536 in
set_option maxHeartbeats 40000000 in
theorem rm5i2 (l : Launch) (Z : State) (a0 : Array Value) (hw : ∀ d ∈ tables_1, d.before a0 Z = true) (ws : List Jvm.Cond) (q1 : Addr) (q2 : Int32) (q3 : Int32) (q4 : Int32) (q5 : Int64) (kc_q1 : ClassId) (w0_q1 : Int32) (w1_q1 : Int32) (w2_q1 : Int32) (w3_q1 : Int32) (h0 : Heap) (n0 : Nat) (Z0 : n0 ≤ h0.size) (A_q1 : Arv Z h0 q1 kc_q1 .byte q2 [(.int w0_q1), (.int w1_q1), (.int w2_q1), (.int w3_q1)] (.int (0 : Int32))) :
    MetFree l (⟨"com/example/typewire/typewire/packet/BitInputBytesBeforePinLaw", "hit", "([BIIIJI)Z"⟩ : MethodName) (head1 (Jvm.Cond.code (⟨"com/example/typewire/typewire/packet/BitInputBytesBeforePinLaw", "hit", "([BIIIJI)Z"⟩ : MethodName) method_3_code 7 (some .boolean) :: ws) ({ frames := 0, cells := 0, slots := 0, locals := 0 } : Room)) (fun a U => a = #[(.ref q1), (.int q2), (.int q3), (.int q4), (.long q5), (.int (2 : Int32))] ∧ Z.Warmed39 U.vm ∧ U.heap = h0) (fun _ _ _ _ _ => True) (fun _ U o U' => ∃ v L, o = .returned v ∧ (own_P h0 n0 (some (.int (own_f5i2 q2 q3 q4 q5 w0_q1 w1_q1 w2_q1 w3_q1)))) v U'.heap L ∧ FrameEnd U o U' L ({ frames := 0, cells := 0, slots := 0, locals := 0 } : Room).cells ({ frames := 0, cells := 0, slots := 0, locals := 0 } : Room).slots) := by
  refine MetFree.of_bodySF (plainFor_of_name pn_5) hisR ?_
  intro p e s m args below meth c s₁ Bd hml0 hP hK
  obtain ⟨rfl, hZ, hh⟩ := hP
  have hown : s.vm.findClass "com/example/typewire/typewire/packet/BitInputBytesBeforePinLaw" = some m.cls := findClass_of_methodNamed Bd.named
  have hnm := (name_of_methodNamed Bd.named Bd.method).1
  have X0 : Stand p l e ({ frames := 0, cells := 0, slots := 0, locals := 0 } : Room) s m #[(.ref q1), (.int q2), (.int q3), (.int q4), (.long q5), (.int (2 : Int32))] below meth c s₁ [] 0 0 := Stand.of_body Bd
  have e0 : s₁.heap = h0 := by rw [← hh, Bd.state]; rfl
  have H := sg5i2_0 l hw Bd.exec hZ Bd.bytes hml0 hown hnm Bd.returns Bd.notSynchronized q1 q2 q3 q4 q5 kc_q1 w0_q1 w1_q1 w2_q1 w3_q1 Z0 X0 (Fr.nil n0) e0 A_q1
  obtain ⟨t, h1, h2, o, h3, h4⟩ := H
  exact ⟨t, o, castTop (ef_5i2 m q1 q2 q3 q4 q5) h1, h2, h3, h4⟩
def own_f5i3 (q2 : Int32) (q3 : Int32) (q4 : Int32) (q5 : Int64) (w0_q1 : Int32) (w1_q1 : Int32) (w2_q1 : Int32) (w3_q1 : Int32) : Int32 :=
  if (3 : Int32) < q3 then (0 : Int32) else
  if (3 : Int32) < q2 then (if q5 < (((3 : Int32) - q3).toInt64) then (0 : Int32) else
    if (w3_q1 &&& (255 : Int32)) = q4 then (1 : Int32) else
    (0 : Int32)) else
  (0 : Int32)
set_option maxRecDepth 65536 in
set_option maxHeartbeats 40000000 in
theorem sg5i3_0 {p : Program} (l : Launch) {e : Env} {s : State} {m : MethodId} {args : Array Value} {below : List Frame} {meth : Method} {c : Code} {Z : State} {a0 : Array Value} (hw : ∀ d ∈ tables_1, d.before a0 Z = true) (hx : p.tables.exec = Jvm.exec) (hZ : Z.Warmed39 s.vm) (hby : c.code = method_3_code) (hml : c.maxLocals = 7) (hown : s.vm.findClass "com/example/typewire/typewire/packet/BitInputBytesBeforePinLaw" = some m.cls) (hnm : meth.name = "hit") (hret : meth.sig.returnType = (some .boolean)) (hlk : meth.locks = false) (q1 : Addr) (q2 : Int32) (q3 : Int32) (q4 : Int32) (q5 : Int64) (kc_q1 : ClassId) (w0_q1 : Int32) (w1_q1 : Int32) (w2_q1 : Int32) (w3_q1 : Int32) {h0 : Heap} {n0 : Nat} (Z0 : n0 ≤ h0.size) {T0 : State} {L0 : List Loc} (X0 : Stand p l e ({ frames := 0, cells := 0, slots := 0, locals := 0 } : Room) s m args below meth c T0 L0 0 0) (N0 : Fr n0 L0) (e0 : T0.heap = h0) (A_q1 : Arv Z h0 q1 kc_q1 .byte q2 [(.int w0_q1), (.int w1_q1), (.int w2_q1), (.int w3_q1)] (.int (0 : Int32))) :
    own_Fin p.tables e below (own_End below s (own_P h0 n0 (some (.int (own_f5i3 q2 q3 q4 q5 w0_q1 w1_q1 w2_q1 w3_q1)))) 0 0) T0 (mkF m 0 #[.val (.ref q1), .val (.int q2), .val (.int q3), .val (.int q4), .val (.long q5), .second, .val (.int (3 : Int32))] []) := by
  refine own_iload X0 hx (hb hby d5_0) (pc' := 2) rfl rfl ?_
  refine own_iloadN X0 hx (hb hby d5_2) (pc' := 3) rfl rfl ?_
  by_cases hc239 : (3 : Int32) < q3
  · refine own_icmpYes X0 hx (hb hby d5_3) (tlt hc239).1 (pc' := 39) (by decide) (by decide) ?_
    refine own_iconst X0 hx (hb hby d5_39) (pc' := 40) rfl (v := (0 : Int32)) rfl ?_
    refine own_retN X0 hx (t := .boolean) hret (by simp) hlk (hb hby d5_40) (by decide) (by decide) ?_
    show own_P _ _ _ _ T0.heap _
    exact ⟨(congrArg some (congrArg Value.int (show _ = (own_f5i3 q2 q3 q4 q5 w0_q1 w1_q1 w2_q1 w3_q1) from by rw [own_f5i3, if_pos hc239]; rfl))), N0, e0⟩
  · refine own_icmpNo X0 hx (hb hby d5_3) (pc' := 6) rfl (flt hc239).1 ?_
    refine own_iload X0 hx (hb hby d5_6) (pc' := 8) rfl rfl ?_
    refine own_iloadN X0 hx (hb hby d5_8) (pc' := 9) rfl rfl ?_
    by_cases hc240 : (3 : Int32) < q2
    · refine own_icmpNo X0 hx (hb hby d5_9) (pc' := 12) rfl (tlt hc240).2.1 ?_
      refine own_iload X0 hx (hb hby d5_12) (pc' := 14) rfl rfl ?_
      refine own_iloadN X0 hx (hb hby d5_14) (pc' := 15) rfl rfl ?_
      refine own_isub X0 hx (hb hby d5_15) (pc' := 16) rfl ?_
      refine own_i2l X0 hx (hb hby d5_16) (pc' := 17) rfl ?_
      refine own_lload X0 hx (hb hby d5_17) (pc' := 19) rfl rfl ?_
      refine own_lcmp X0 hx (hb hby d5_19) (pc' := 20) rfl ?_
      by_cases hc241 : q5 < (((3 : Int32) - q3).toInt64)
      · refine own_ifYes X0 hx (hb hby d5_20) ((if0 _ _).trans (tlt (own_lc_gt.mpr hc241)).2.2.1) (pc' := 39) (by decide) (by decide) ?_
        refine own_iconst X0 hx (hb hby d5_39) (pc' := 40) rfl (v := (0 : Int32)) rfl ?_
        refine own_retN X0 hx (t := .boolean) hret (by simp) hlk (hb hby d5_40) (by decide) (by decide) ?_
        show own_P _ _ _ _ T0.heap _
        exact ⟨(congrArg some (congrArg Value.int (show _ = (own_f5i3 q2 q3 q4 q5 w0_q1 w1_q1 w2_q1 w3_q1) from by rw [own_f5i3, if_neg hc239, if_pos hc240, if_pos hc241]; rfl))), N0, e0⟩
      · refine own_ifNo X0 hx (hb hby d5_20) (pc' := 23) rfl ((if0 _ _).trans (flt (mt own_lc_gt.mp hc241)).2.2.1) ?_
        refine own_aloadN X0 hx (hb hby d5_23) (pc' := 24) rfl rfl rfl ?_
        refine own_iload X0 hx (hb hby d5_24) (pc' := 26) rfl rfl ?_
        obtain ⟨cl242, Ar242, qa242, S242, M242, H242, G242⟩ := id A_q1
        have hin242 : ¬ ((3 : Int32) < 0 ∨ cl242.slots.size ≤ ((3 : Int32)).toNatClampNeg) := inb_of S242 ⟨by decide, hc240⟩
        refine own_st ?_ (fun t k => X0.baloadBytes hx (j := (3 : Int32)) (v := (.int w3_q1)) (by rw [e0]; exact Ar242.1) (State.isArrayOf_alike hZ.alike Ar242.2.1) Ar242.2.2 hin242 (Has.at H242 hin242 rfl) (g := (mkF m 26 #[.val (.ref q1), .val (.int q2), .val (.int q3), .val (.int q4), .val (.long q5), .second, .val (.int (3 : Int32))] [(.int (3 : Int32)), (.ref q1)])) rfl rfl (hb hby d5_26) t k)
        show own_Fin _ _ _ _ T0 (mkF m 27 #[.val (.ref q1), .val (.int q2), .val (.int q3), .val (.int q4), .val (.long q5), .second, .val (.int (3 : Int32))] [(.int w3_q1)])
        refine own_sipush X0 hx (hb hby d5_27) (pc' := 30) rfl (v := (255 : Int32)) rfl ?_
        refine own_iand X0 hx (hb hby d5_30) (pc' := 31) rfl ?_
        refine own_iloadN X0 hx (hb hby d5_31) (pc' := 32) rfl rfl ?_
        by_cases hc243 : (w3_q1 &&& (255 : Int32)) = q4
        · refine own_icmpNo X0 hx (hb hby d5_32) (pc' := 35) rfl (teq hc243).2 ?_
          refine own_iconst X0 hx (hb hby d5_35) (pc' := 36) rfl (v := (1 : Int32)) rfl ?_
          refine own_goto X0 hx (hb hby d5_36) (pc' := 40) (by decide) (by decide) ?_
          refine own_retN X0 hx (t := .boolean) hret (by simp) hlk (hb hby d5_40) (by decide) (by decide) ?_
          show own_P _ _ _ _ T0.heap _
          exact ⟨(congrArg some (congrArg Value.int (show _ = (own_f5i3 q2 q3 q4 q5 w0_q1 w1_q1 w2_q1 w3_q1) from by rw [own_f5i3, if_neg hc239, if_pos hc240, if_neg hc241, if_pos hc243]; rfl))), N0, e0⟩
        · refine own_icmpYes X0 hx (hb hby d5_32) (feq hc243).2 (pc' := 39) (by decide) (by decide) ?_
          refine own_iconst X0 hx (hb hby d5_39) (pc' := 40) rfl (v := (0 : Int32)) rfl ?_
          refine own_retN X0 hx (t := .boolean) hret (by simp) hlk (hb hby d5_40) (by decide) (by decide) ?_
          show own_P _ _ _ _ T0.heap _
          exact ⟨(congrArg some (congrArg Value.int (show _ = (own_f5i3 q2 q3 q4 q5 w0_q1 w1_q1 w2_q1 w3_q1) from by rw [own_f5i3, if_neg hc239, if_pos hc240, if_neg hc241, if_neg hc243]; rfl))), N0, e0⟩
    · refine own_icmpYes X0 hx (hb hby d5_9) (flt hc240).2.1 (pc' := 39) (by decide) (by decide) ?_
      refine own_iconst X0 hx (hb hby d5_39) (pc' := 40) rfl (v := (0 : Int32)) rfl ?_
      refine own_retN X0 hx (t := .boolean) hret (by simp) hlk (hb hby d5_40) (by decide) (by decide) ?_
      show own_P _ _ _ _ T0.heap _
      exact ⟨(congrArg some (congrArg Value.int (show _ = (own_f5i3 q2 q3 q4 q5 w0_q1 w1_q1 w2_q1 w3_q1) from by rw [own_f5i3, if_neg hc239, if_neg hc240]; rfl))), N0, e0⟩
theorem ef_5i3 (m : MethodId) (q1 : Addr) (q2 : Int32) (q3 : Int32) (q4 : Int32) (q5 : Int64) : entryFrame m #[(.ref q1), (.int q2), (.int q3), (.int q4), (.long q5), (.int (3 : Int32))] 7 = mkF m 0 #[.val (.ref q1), .val (.int q2), .val (.int q3), .val (.int q4), .val (.long q5), .second, .val (.int (3 : Int32))] [] := by first | (simp [entryFrame, mkF, argsToLocals, Value.category]; done) | rfl
set_option maxRecDepth 65536 in
set_option maxHeartbeats 40000000 in
theorem rm5i3 (l : Launch) (Z : State) (a0 : Array Value) (hw : ∀ d ∈ tables_1, d.before a0 Z = true) (ws : List Jvm.Cond) (q1 : Addr) (q2 : Int32) (q3 : Int32) (q4 : Int32) (q5 : Int64) (kc_q1 : ClassId) (w0_q1 : Int32) (w1_q1 : Int32) (w2_q1 : Int32) (w3_q1 : Int32) (h0 : Heap) (n0 : Nat) (Z0 : n0 ≤ h0.size) (A_q1 : Arv Z h0 q1 kc_q1 .byte q2 [(.int w0_q1), (.int w1_q1), (.int w2_q1), (.int w3_q1)] (.int (0 : Int32))) :
    MetFree l (⟨"com/example/typewire/typewire/packet/BitInputBytesBeforePinLaw", "hit", "([BIIIJI)Z"⟩ : MethodName) (head1 (Jvm.Cond.code (⟨"com/example/typewire/typewire/packet/BitInputBytesBeforePinLaw", "hit", "([BIIIJI)Z"⟩ : MethodName) method_3_code 7 (some .boolean) :: ws) ({ frames := 0, cells := 0, slots := 0, locals := 0 } : Room)) (fun a U => a = #[(.ref q1), (.int q2), (.int q3), (.int q4), (.long q5), (.int (3 : Int32))] ∧ Z.Warmed39 U.vm ∧ U.heap = h0) (fun _ _ _ _ _ => True) (fun _ U o U' => ∃ v L, o = .returned v ∧ (own_P h0 n0 (some (.int (own_f5i3 q2 q3 q4 q5 w0_q1 w1_q1 w2_q1 w3_q1)))) v U'.heap L ∧ FrameEnd U o U' L ({ frames := 0, cells := 0, slots := 0, locals := 0 } : Room).cells ({ frames := 0, cells := 0, slots := 0, locals := 0 } : Room).slots) := by
  refine MetFree.of_bodySF (plainFor_of_name pn_5) hisR ?_
  intro p e s m args below meth c s₁ Bd hml0 hP hK
  obtain ⟨rfl, hZ, hh⟩ := hP
  have hown : s.vm.findClass "com/example/typewire/typewire/packet/BitInputBytesBeforePinLaw" = some m.cls := findClass_of_methodNamed Bd.named
  have hnm := (name_of_methodNamed Bd.named Bd.method).1
  have X0 : Stand p l e ({ frames := 0, cells := 0, slots := 0, locals := 0 } : Room) s m #[(.ref q1), (.int q2), (.int q3), (.int q4), (.long q5), (.int (3 : Int32))] below meth c s₁ [] 0 0 := Stand.of_body Bd
  have e0 : s₁.heap = h0 := by rw [← hh, Bd.state]; rfl
  have H := sg5i3_0 l hw Bd.exec hZ Bd.bytes hml0 hown hnm Bd.returns Bd.notSynchronized q1 q2 q3 q4 q5 kc_q1 w0_q1 w1_q1 w2_q1 w3_q1 Z0 X0 (Fr.nil n0) e0 A_q1
  obtain ⟨t, h1, h2, o, h3, h4⟩ := H
  exact ⟨t, o, castTop (ef_5i3 m q1 q2 q3 q4 q5) h1, h2, h3, h4⟩
theorem d4_0 : decode method_4_code 0 = .ok (.aload_n 0, 1) := by decide +kernel
theorem d4_1 : decode method_4_code 1 = .ok (.iload_n 1, 1) := by decide +kernel
theorem d4_2 : decode method_4_code 2 = .ok (.iload_n 2, 1) := by decide +kernel
theorem d4_3 : decode method_4_code 3 = .ok (.iload_n 3, 1) := by decide +kernel
theorem d4_4 : decode method_4_code 4 = .ok (.lload 4, 2) := by decide +kernel
theorem d4_6 : decode method_4_code 6 = .ok (.iconst 0, 1) := by decide +kernel
theorem d4_7 : decode method_4_code 7 = .ok (.invokestatic 36, 3) := by decide +kernel
theorem d4_10 : decode method_4_code 10 = .ok (.ifCond .eq 8, 3) := by decide +kernel
theorem d4_13 : decode method_4_code 13 = .ok (.iconst 0, 1) := by decide +kernel
theorem d4_14 : decode method_4_code 14 = .ok (.iload_n 2, 1) := by decide +kernel
theorem d4_15 : decode method_4_code 15 = .ok (.isub, 1) := by decide +kernel
theorem d4_16 : decode method_4_code 16 = .ok (.i2l, 1) := by decide +kernel
theorem d4_17 : decode method_4_code 17 = .ok (.lreturn, 1) := by decide +kernel
theorem d4_18 : decode method_4_code 18 = .ok (.aload_n 0, 1) := by decide +kernel
theorem d4_19 : decode method_4_code 19 = .ok (.iload_n 1, 1) := by decide +kernel
theorem d4_20 : decode method_4_code 20 = .ok (.iload_n 2, 1) := by decide +kernel
theorem d4_21 : decode method_4_code 21 = .ok (.iload_n 3, 1) := by decide +kernel
theorem d4_22 : decode method_4_code 22 = .ok (.lload 4, 2) := by decide +kernel
theorem d4_24 : decode method_4_code 24 = .ok (.iconst 1, 1) := by decide +kernel
theorem d4_25 : decode method_4_code 25 = .ok (.invokestatic 36, 3) := by decide +kernel
theorem d4_28 : decode method_4_code 28 = .ok (.ifCond .eq 8, 3) := by decide +kernel
theorem d4_31 : decode method_4_code 31 = .ok (.iconst 1, 1) := by decide +kernel
theorem d4_32 : decode method_4_code 32 = .ok (.iload_n 2, 1) := by decide +kernel
theorem d4_33 : decode method_4_code 33 = .ok (.isub, 1) := by decide +kernel
theorem d4_34 : decode method_4_code 34 = .ok (.i2l, 1) := by decide +kernel
theorem d4_35 : decode method_4_code 35 = .ok (.lreturn, 1) := by decide +kernel
theorem d4_36 : decode method_4_code 36 = .ok (.aload_n 0, 1) := by decide +kernel
theorem d4_37 : decode method_4_code 37 = .ok (.iload_n 1, 1) := by decide +kernel
theorem d4_38 : decode method_4_code 38 = .ok (.iload_n 2, 1) := by decide +kernel
theorem d4_39 : decode method_4_code 39 = .ok (.iload_n 3, 1) := by decide +kernel
theorem d4_40 : decode method_4_code 40 = .ok (.lload 4, 2) := by decide +kernel
theorem d4_42 : decode method_4_code 42 = .ok (.iconst 2, 1) := by decide +kernel
theorem d4_43 : decode method_4_code 43 = .ok (.invokestatic 36, 3) := by decide +kernel
theorem d4_46 : decode method_4_code 46 = .ok (.ifCond .eq 8, 3) := by decide +kernel
theorem d4_49 : decode method_4_code 49 = .ok (.iconst 2, 1) := by decide +kernel
theorem d4_50 : decode method_4_code 50 = .ok (.iload_n 2, 1) := by decide +kernel
theorem d4_51 : decode method_4_code 51 = .ok (.isub, 1) := by decide +kernel
theorem d4_52 : decode method_4_code 52 = .ok (.i2l, 1) := by decide +kernel
theorem d4_53 : decode method_4_code 53 = .ok (.lreturn, 1) := by decide +kernel
theorem d4_54 : decode method_4_code 54 = .ok (.aload_n 0, 1) := by decide +kernel
theorem d4_55 : decode method_4_code 55 = .ok (.iload_n 1, 1) := by decide +kernel
theorem d4_56 : decode method_4_code 56 = .ok (.iload_n 2, 1) := by decide +kernel
theorem d4_57 : decode method_4_code 57 = .ok (.iload_n 3, 1) := by decide +kernel
theorem d4_58 : decode method_4_code 58 = .ok (.lload 4, 2) := by decide +kernel
theorem d4_60 : decode method_4_code 60 = .ok (.iconst 3, 1) := by decide +kernel
theorem d4_61 : decode method_4_code 61 = .ok (.invokestatic 36, 3) := by decide +kernel
theorem d4_64 : decode method_4_code 64 = .ok (.ifCond .eq 8, 3) := by decide +kernel
theorem d4_67 : decode method_4_code 67 = .ok (.iconst 3, 1) := by decide +kernel
theorem d4_68 : decode method_4_code 68 = .ok (.iload_n 2, 1) := by decide +kernel
theorem d4_69 : decode method_4_code 69 = .ok (.isub, 1) := by decide +kernel
theorem d4_70 : decode method_4_code 70 = .ok (.i2l, 1) := by decide +kernel
theorem d4_71 : decode method_4_code 71 = .ok (.lreturn, 1) := by decide +kernel
theorem d4_72 : decode method_4_code 72 = .ok (.ldc2_w 40, 3) := by decide +kernel
theorem d4_75 : decode method_4_code 75 = .ok (.lreturn, 1) := by decide +kernel
theorem pn_4 : plainName "com/example/typewire/typewire/packet/BitInputBytesBeforePinLaw" = true := by first | (simp [plainName, overriddenIn]; done) | decide +kernel
def own_f4 (q2 : Int32) (q3 : Int32) (q4 : Int32) (q5 : Int64) (w0_q1 : Int32) (w1_q1 : Int32) (w2_q1 : Int32) (w3_q1 : Int32) : Int64 :=
  if (own_f5i0 q2 q3 q4 q5 w0_q1 w1_q1 w2_q1 w3_q1) = (0 : Int32) then (if (own_f5i1 q2 q3 q4 q5 w0_q1 w1_q1 w2_q1 w3_q1) = (0 : Int32) then (if (own_f5i2 q2 q3 q4 q5 w0_q1 w1_q1 w2_q1 w3_q1) = (0 : Int32) then (if (own_f5i3 q2 q3 q4 q5 w0_q1 w1_q1 w2_q1 w3_q1) = (0 : Int32) then (-1 : Int64) else
    (((3 : Int32) - q3).toInt64)) else
    (((2 : Int32) - q3).toInt64)) else
    (((1 : Int32) - q3).toInt64)) else
  (((0 : Int32) - q3).toInt64)
set_option maxRecDepth 65536 in
set_option maxHeartbeats 40000000 in
theorem sg4_0 {p : Program} (l : Launch) {e : Env} {s : State} {m : MethodId} {args : Array Value} {below : List Frame} {meth : Method} {c : Code} {Z : State} {a0 : Array Value} (hw : ∀ d ∈ tables_1, d.before a0 Z = true) (hx : p.tables.exec = Jvm.exec) (hZ : Z.Warmed39 s.vm) (hby : c.code = method_4_code) (hml : c.maxLocals = 6) (hown : s.vm.findClass "com/example/typewire/typewire/packet/BitInputBytesBeforePinLaw" = some m.cls) (hnm : meth.name = "expected") (hret : meth.sig.returnType = (some .long)) (hlk : meth.locks = false) (q1 : Addr) (q2 : Int32) (q3 : Int32) (q4 : Int32) (q5 : Int64) (kc_q1 : ClassId) (w0_q1 : Int32) (w1_q1 : Int32) (w2_q1 : Int32) (w3_q1 : Int32) {h0 : Heap} {n0 : Nat} (Z0 : n0 ≤ h0.size) {T0 : State} {L0 : List Loc} (X0 : Stand p l e ({ frames := 1, cells := 0, slots := 0, locals := 18 } : Room) s m args below meth c T0 L0 0 0) (N0 : Fr n0 L0) (e0 : T0.heap = h0) (A_q1 : Arv Z h0 q1 kc_q1 .byte q2 [(.int w0_q1), (.int w1_q1), (.int w2_q1), (.int w3_q1)] (.int (0 : Int32))) :
    own_Fin p.tables e below (own_End below s (own_P h0 n0 (some (.long (own_f4 q2 q3 q4 q5 w0_q1 w1_q1 w2_q1 w3_q1)))) 0 0) T0 (mkF m 0 #[.val (.ref q1), .val (.int q2), .val (.int q3), .val (.int q4), .val (.long q5), .second] []) := by
  refine own_aloadN X0 hx (hb hby d4_0) (pc' := 1) rfl rfl rfl ?_
  refine own_iloadN X0 hx (hb hby d4_1) (pc' := 2) rfl rfl ?_
  refine own_iloadN X0 hx (hb hby d4_2) (pc' := 3) rfl rfl ?_
  refine own_iloadN X0 hx (hb hby d4_3) (pc' := 4) rfl rfl ?_
  refine own_lload X0 hx (hb hby d4_4) (pc' := 6) rfl rfl ?_
  refine own_iconst X0 hx (hb hby d4_6) (pc' := 7) rfl (v := (0 : Int32)) rfl ?_
  obtain ⟨_, _, ⟨T244, L244, k244, n244⟩, -, X244, ⟨Lc244, hQ244, l244, y244, z244⟩, st244⟩ := Jvm.LawKit.callS X0 hx (y := (⟨"com/example/typewire/typewire/packet/BitInputBytesBeforePinLaw", "hit", "([BIIIJI)Z"⟩ : MethodName)) hown (mvT hZ (hw _ (List.mem_of_getElem? (i := 26) rfl))) (mvT hZ (hw _ (List.mem_of_getElem? (i := 27) rfl))) (mvT hZ (hw _ (List.mem_of_getElem? (i := 24) rfl))) (mvT hZ (hw _ (List.mem_of_getElem? (i := 28) rfl))) (by decide) (backOf (W := 0) (rm5i0 l Z a0 hw [] q1 q2 q3 q4 q5 kc_q1 w0_q1 w1_q1 w2_q1 w3_q1 h0 n0 Z0 A_q1) hZ (hw _ (List.mem_of_getElem? (i := 28) rfl)) (hw _ (List.mem_of_getElem? (i := 24) rfl)) (by decide) (by decide)) (g := (mkF m 7 #[.val (.ref q1), .val (.int q2), .val (.int q3), .val (.int q4), .val (.long q5), .second] [(.int (0 : Int32)), (.long q5), (.int q4), (.int q3), (.int q2), (.ref q1)])) rfl (by rw [hml]; rfl) (argsL := [(.ref q1), (.int q2), (.int q3), (.int q4), (.long q5), (.int (0 : Int32))]) (rest := []) (lenOf pd_2 rfl) rfl (by show 2 * 0 + _ ≤ _; exact Nat.le_of_eq rfl) (hb hby d4_7) (fun _ _ => ⟨rfl, e0, (by decide : 0 + 0 ≤ _), (by decide : 0 + 0 ≤ _)⟩)
  dsimp only [Pt.U, Pt.locs, Pt.cells, Pt.slots] at X244 l244 y244 z244 st244 hQ244
  subst l244 y244 z244
  obtain ⟨rfl, N244q, e244'⟩ := hQ244
  have N244 := Fr.app N0 N244q
  refine own_st ?_ st244
  show own_Fin _ _ _ _ T244 (mkF m 10 #[.val (.ref q1), .val (.int q2), .val (.int q3), .val (.int q4), .val (.long q5), .second] [(.int (own_f5i0 q2 q3 q4 q5 w0_q1 w1_q1 w2_q1 w3_q1))])
  by_cases hc245 : (own_f5i0 q2 q3 q4 q5 w0_q1 w1_q1 w2_q1 w3_q1) = (0 : Int32)
  · refine own_ifYes X244 hx (hb hby d4_10) ((if0 _ _).trans (teq hc245).1) (pc' := 18) (by decide) (by decide) ?_
    refine own_aloadN X244 hx (hb hby d4_18) (pc' := 19) rfl rfl rfl ?_
    refine own_iloadN X244 hx (hb hby d4_19) (pc' := 20) rfl rfl ?_
    refine own_iloadN X244 hx (hb hby d4_20) (pc' := 21) rfl rfl ?_
    refine own_iloadN X244 hx (hb hby d4_21) (pc' := 22) rfl rfl ?_
    refine own_lload X244 hx (hb hby d4_22) (pc' := 24) rfl rfl ?_
    refine own_iconst X244 hx (hb hby d4_24) (pc' := 25) rfl (v := (1 : Int32)) rfl ?_
    obtain ⟨_, _, ⟨T246, L246, k246, n246⟩, -, X246, ⟨Lc246, hQ246, l246, y246, z246⟩, st246⟩ := Jvm.LawKit.callS X244 hx (y := (⟨"com/example/typewire/typewire/packet/BitInputBytesBeforePinLaw", "hit", "([BIIIJI)Z"⟩ : MethodName)) hown (mvT hZ (hw _ (List.mem_of_getElem? (i := 26) rfl))) (mvT hZ (hw _ (List.mem_of_getElem? (i := 27) rfl))) (mvT hZ (hw _ (List.mem_of_getElem? (i := 24) rfl))) (mvT hZ (hw _ (List.mem_of_getElem? (i := 28) rfl))) (by decide) (backOf (W := 0) (rm5i1 l Z a0 hw [] q1 q2 q3 q4 q5 kc_q1 w0_q1 w1_q1 w2_q1 w3_q1 h0 n0 Z0 A_q1) hZ (hw _ (List.mem_of_getElem? (i := 28) rfl)) (hw _ (List.mem_of_getElem? (i := 24) rfl)) (by decide) (by decide)) (g := (mkF m 25 #[.val (.ref q1), .val (.int q2), .val (.int q3), .val (.int q4), .val (.long q5), .second] [(.int (1 : Int32)), (.long q5), (.int q4), (.int q3), (.int q2), (.ref q1)])) rfl (by rw [hml]; rfl) (argsL := [(.ref q1), (.int q2), (.int q3), (.int q4), (.long q5), (.int (1 : Int32))]) (rest := []) (lenOf pd_2 rfl) rfl (by show 2 * 0 + _ ≤ _; exact Nat.le_of_eq rfl) (hb hby d4_25) (fun _ _ => ⟨rfl, e244', (by decide : 0 + 0 ≤ _), (by decide : 0 + 0 ≤ _)⟩)
    dsimp only [Pt.U, Pt.locs, Pt.cells, Pt.slots] at X246 l246 y246 z246 st246 hQ246
    subst l246 y246 z246
    obtain ⟨rfl, N246q, e246'⟩ := hQ246
    have N246 := Fr.app N244 N246q
    refine own_st ?_ st246
    show own_Fin _ _ _ _ T246 (mkF m 28 #[.val (.ref q1), .val (.int q2), .val (.int q3), .val (.int q4), .val (.long q5), .second] [(.int (own_f5i1 q2 q3 q4 q5 w0_q1 w1_q1 w2_q1 w3_q1))])
    by_cases hc247 : (own_f5i1 q2 q3 q4 q5 w0_q1 w1_q1 w2_q1 w3_q1) = (0 : Int32)
    · refine own_ifYes X246 hx (hb hby d4_28) ((if0 _ _).trans (teq hc247).1) (pc' := 36) (by decide) (by decide) ?_
      refine own_aloadN X246 hx (hb hby d4_36) (pc' := 37) rfl rfl rfl ?_
      refine own_iloadN X246 hx (hb hby d4_37) (pc' := 38) rfl rfl ?_
      refine own_iloadN X246 hx (hb hby d4_38) (pc' := 39) rfl rfl ?_
      refine own_iloadN X246 hx (hb hby d4_39) (pc' := 40) rfl rfl ?_
      refine own_lload X246 hx (hb hby d4_40) (pc' := 42) rfl rfl ?_
      refine own_iconst X246 hx (hb hby d4_42) (pc' := 43) rfl (v := (2 : Int32)) rfl ?_
      obtain ⟨_, _, ⟨T248, L248, k248, n248⟩, -, X248, ⟨Lc248, hQ248, l248, y248, z248⟩, st248⟩ := Jvm.LawKit.callS X246 hx (y := (⟨"com/example/typewire/typewire/packet/BitInputBytesBeforePinLaw", "hit", "([BIIIJI)Z"⟩ : MethodName)) hown (mvT hZ (hw _ (List.mem_of_getElem? (i := 26) rfl))) (mvT hZ (hw _ (List.mem_of_getElem? (i := 27) rfl))) (mvT hZ (hw _ (List.mem_of_getElem? (i := 24) rfl))) (mvT hZ (hw _ (List.mem_of_getElem? (i := 28) rfl))) (by decide) (backOf (W := 0) (rm5i2 l Z a0 hw [] q1 q2 q3 q4 q5 kc_q1 w0_q1 w1_q1 w2_q1 w3_q1 h0 n0 Z0 A_q1) hZ (hw _ (List.mem_of_getElem? (i := 28) rfl)) (hw _ (List.mem_of_getElem? (i := 24) rfl)) (by decide) (by decide)) (g := (mkF m 43 #[.val (.ref q1), .val (.int q2), .val (.int q3), .val (.int q4), .val (.long q5), .second] [(.int (2 : Int32)), (.long q5), (.int q4), (.int q3), (.int q2), (.ref q1)])) rfl (by rw [hml]; rfl) (argsL := [(.ref q1), (.int q2), (.int q3), (.int q4), (.long q5), (.int (2 : Int32))]) (rest := []) (lenOf pd_2 rfl) rfl (by show 2 * 0 + _ ≤ _; exact Nat.le_of_eq rfl) (hb hby d4_43) (fun _ _ => ⟨rfl, e246', (by decide : 0 + 0 ≤ _), (by decide : 0 + 0 ≤ _)⟩)
      dsimp only [Pt.U, Pt.locs, Pt.cells, Pt.slots] at X248 l248 y248 z248 st248 hQ248
      subst l248 y248 z248
      obtain ⟨rfl, N248q, e248'⟩ := hQ248
      have N248 := Fr.app N246 N248q
      refine own_st ?_ st248
      show own_Fin _ _ _ _ T248 (mkF m 46 #[.val (.ref q1), .val (.int q2), .val (.int q3), .val (.int q4), .val (.long q5), .second] [(.int (own_f5i2 q2 q3 q4 q5 w0_q1 w1_q1 w2_q1 w3_q1))])
      by_cases hc249 : (own_f5i2 q2 q3 q4 q5 w0_q1 w1_q1 w2_q1 w3_q1) = (0 : Int32)
      · refine own_ifYes X248 hx (hb hby d4_46) ((if0 _ _).trans (teq hc249).1) (pc' := 54) (by decide) (by decide) ?_
        refine own_aloadN X248 hx (hb hby d4_54) (pc' := 55) rfl rfl rfl ?_
        refine own_iloadN X248 hx (hb hby d4_55) (pc' := 56) rfl rfl ?_
        refine own_iloadN X248 hx (hb hby d4_56) (pc' := 57) rfl rfl ?_
        refine own_iloadN X248 hx (hb hby d4_57) (pc' := 58) rfl rfl ?_
        refine own_lload X248 hx (hb hby d4_58) (pc' := 60) rfl rfl ?_
        refine own_iconst X248 hx (hb hby d4_60) (pc' := 61) rfl (v := (3 : Int32)) rfl ?_
        obtain ⟨_, _, ⟨T250, L250, k250, n250⟩, -, X250, ⟨Lc250, hQ250, l250, y250, z250⟩, st250⟩ := Jvm.LawKit.callS X248 hx (y := (⟨"com/example/typewire/typewire/packet/BitInputBytesBeforePinLaw", "hit", "([BIIIJI)Z"⟩ : MethodName)) hown (mvT hZ (hw _ (List.mem_of_getElem? (i := 26) rfl))) (mvT hZ (hw _ (List.mem_of_getElem? (i := 27) rfl))) (mvT hZ (hw _ (List.mem_of_getElem? (i := 24) rfl))) (mvT hZ (hw _ (List.mem_of_getElem? (i := 28) rfl))) (by decide) (backOf (W := 0) (rm5i3 l Z a0 hw [] q1 q2 q3 q4 q5 kc_q1 w0_q1 w1_q1 w2_q1 w3_q1 h0 n0 Z0 A_q1) hZ (hw _ (List.mem_of_getElem? (i := 28) rfl)) (hw _ (List.mem_of_getElem? (i := 24) rfl)) (by decide) (by decide)) (g := (mkF m 61 #[.val (.ref q1), .val (.int q2), .val (.int q3), .val (.int q4), .val (.long q5), .second] [(.int (3 : Int32)), (.long q5), (.int q4), (.int q3), (.int q2), (.ref q1)])) rfl (by rw [hml]; rfl) (argsL := [(.ref q1), (.int q2), (.int q3), (.int q4), (.long q5), (.int (3 : Int32))]) (rest := []) (lenOf pd_2 rfl) rfl (by show 2 * 0 + _ ≤ _; exact Nat.le_of_eq rfl) (hb hby d4_61) (fun _ _ => ⟨rfl, e248', (by decide : 0 + 0 ≤ _), (by decide : 0 + 0 ≤ _)⟩)
        dsimp only [Pt.U, Pt.locs, Pt.cells, Pt.slots] at X250 l250 y250 z250 st250 hQ250
        subst l250 y250 z250
        obtain ⟨rfl, N250q, e250'⟩ := hQ250
        have N250 := Fr.app N248 N250q
        refine own_st ?_ st250
        show own_Fin _ _ _ _ T250 (mkF m 64 #[.val (.ref q1), .val (.int q2), .val (.int q3), .val (.int q4), .val (.long q5), .second] [(.int (own_f5i3 q2 q3 q4 q5 w0_q1 w1_q1 w2_q1 w3_q1))])
        by_cases hc251 : (own_f5i3 q2 q3 q4 q5 w0_q1 w1_q1 w2_q1 w3_q1) = (0 : Int32)
        · refine own_ifYes X250 hx (hb hby d4_64) ((if0 _ _).trans (teq hc251).1) (pc' := 72) (by decide) (by decide) ?_
          refine own_ldc2Long X250 hx hZ hown (hw _ (List.mem_of_getElem? (i := 29) rfl)) (hb hby d4_72) (pc' := 75) rfl ?_
          refine own_retJ X250 hx hret hlk (hb hby d4_75) (by decide) (by decide) ?_
          show own_P _ _ _ _ T250.heap _
          exact ⟨(congrArg some (congrArg Value.long (show (-1 : Int64) = (own_f4 q2 q3 q4 q5 w0_q1 w1_q1 w2_q1 w3_q1) from by rw [own_f4, if_pos hc245, if_pos hc247, if_pos hc249, if_pos hc251]))), N250, e250'⟩
        · refine own_ifNo X250 hx (hb hby d4_64) (pc' := 67) rfl ((if0 _ _).trans (feq hc251).1) ?_
          refine own_iconst X250 hx (hb hby d4_67) (pc' := 68) rfl (v := (3 : Int32)) rfl ?_
          refine own_iloadN X250 hx (hb hby d4_68) (pc' := 69) rfl rfl ?_
          refine own_isub X250 hx (hb hby d4_69) (pc' := 70) rfl ?_
          refine own_i2l X250 hx (hb hby d4_70) (pc' := 71) rfl ?_
          refine own_retJ X250 hx hret hlk (hb hby d4_71) (by decide) (by decide) ?_
          show own_P _ _ _ _ T250.heap _
          exact ⟨(congrArg some (congrArg Value.long (show (((3 : Int32) - q3).toInt64) = (own_f4 q2 q3 q4 q5 w0_q1 w1_q1 w2_q1 w3_q1) from by rw [own_f4, if_pos hc245, if_pos hc247, if_pos hc249, if_neg hc251]))), N250, e250'⟩
      · refine own_ifNo X248 hx (hb hby d4_46) (pc' := 49) rfl ((if0 _ _).trans (feq hc249).1) ?_
        refine own_iconst X248 hx (hb hby d4_49) (pc' := 50) rfl (v := (2 : Int32)) rfl ?_
        refine own_iloadN X248 hx (hb hby d4_50) (pc' := 51) rfl rfl ?_
        refine own_isub X248 hx (hb hby d4_51) (pc' := 52) rfl ?_
        refine own_i2l X248 hx (hb hby d4_52) (pc' := 53) rfl ?_
        refine own_retJ X248 hx hret hlk (hb hby d4_53) (by decide) (by decide) ?_
        show own_P _ _ _ _ T248.heap _
        exact ⟨(congrArg some (congrArg Value.long (show (((2 : Int32) - q3).toInt64) = (own_f4 q2 q3 q4 q5 w0_q1 w1_q1 w2_q1 w3_q1) from by rw [own_f4, if_pos hc245, if_pos hc247, if_neg hc249]))), N248, e248'⟩
    · refine own_ifNo X246 hx (hb hby d4_28) (pc' := 31) rfl ((if0 _ _).trans (feq hc247).1) ?_
      refine own_iconst X246 hx (hb hby d4_31) (pc' := 32) rfl (v := (1 : Int32)) rfl ?_
      refine own_iloadN X246 hx (hb hby d4_32) (pc' := 33) rfl rfl ?_
      refine own_isub X246 hx (hb hby d4_33) (pc' := 34) rfl ?_
      refine own_i2l X246 hx (hb hby d4_34) (pc' := 35) rfl ?_
      refine own_retJ X246 hx hret hlk (hb hby d4_35) (by decide) (by decide) ?_
      show own_P _ _ _ _ T246.heap _
      exact ⟨(congrArg some (congrArg Value.long (show (((1 : Int32) - q3).toInt64) = (own_f4 q2 q3 q4 q5 w0_q1 w1_q1 w2_q1 w3_q1) from by rw [own_f4, if_pos hc245, if_neg hc247]))), N246, e246'⟩
  · refine own_ifNo X244 hx (hb hby d4_10) (pc' := 13) rfl ((if0 _ _).trans (feq hc245).1) ?_
    refine own_iconst X244 hx (hb hby d4_13) (pc' := 14) rfl (v := (0 : Int32)) rfl ?_
    refine own_iloadN X244 hx (hb hby d4_14) (pc' := 15) rfl rfl ?_
    refine own_isub X244 hx (hb hby d4_15) (pc' := 16) rfl ?_
    refine own_i2l X244 hx (hb hby d4_16) (pc' := 17) rfl ?_
    refine own_retJ X244 hx hret hlk (hb hby d4_17) (by decide) (by decide) ?_
    show own_P _ _ _ _ T244.heap _
    exact ⟨(congrArg some (congrArg Value.long (show (((0 : Int32) - q3).toInt64) = (own_f4 q2 q3 q4 q5 w0_q1 w1_q1 w2_q1 w3_q1) from by rw [own_f4, if_neg hc245]))), N244, e244'⟩
theorem ef_4 (m : MethodId) (q1 : Addr) (q2 : Int32) (q3 : Int32) (q4 : Int32) (q5 : Int64) : entryFrame m #[(.ref q1), (.int q2), (.int q3), (.int q4), (.long q5)] 6 = mkF m 0 #[.val (.ref q1), .val (.int q2), .val (.int q3), .val (.int q4), .val (.long q5), .second] [] := by first | (simp [entryFrame, mkF, argsToLocals, Value.category]; done) | rfl
set_option maxRecDepth 65536 in
set_option maxHeartbeats 40000000 in
theorem rm4 (l : Launch) (Z : State) (a0 : Array Value) (hw : ∀ d ∈ tables_1, d.before a0 Z = true) (ws : List Jvm.Cond) (q1 : Addr) (q2 : Int32) (q3 : Int32) (q4 : Int32) (q5 : Int64) (kc_q1 : ClassId) (w0_q1 : Int32) (w1_q1 : Int32) (w2_q1 : Int32) (w3_q1 : Int32) (h0 : Heap) (n0 : Nat) (Z0 : n0 ≤ h0.size) (A_q1 : Arv Z h0 q1 kc_q1 .byte q2 [(.int w0_q1), (.int w1_q1), (.int w2_q1), (.int w3_q1)] (.int (0 : Int32))) :
    MetFree l (⟨"com/example/typewire/typewire/packet/BitInputBytesBeforePinLaw", "expected", "([BIIIJ)J"⟩ : MethodName) (head1 (Jvm.Cond.code (⟨"com/example/typewire/typewire/packet/BitInputBytesBeforePinLaw", "expected", "([BIIIJ)J"⟩ : MethodName) method_4_code 6 (some .long) :: ws) ({ frames := 1, cells := 0, slots := 0, locals := 18 } : Room)) (fun a U => a = #[(.ref q1), (.int q2), (.int q3), (.int q4), (.long q5)] ∧ Z.Warmed39 U.vm ∧ U.heap = h0) (fun _ _ _ _ _ => True) (fun _ U o U' => ∃ v L, o = .returned v ∧ (own_P h0 n0 (some (.long (own_f4 q2 q3 q4 q5 w0_q1 w1_q1 w2_q1 w3_q1)))) v U'.heap L ∧ FrameEnd U o U' L ({ frames := 1, cells := 0, slots := 0, locals := 18 } : Room).cells ({ frames := 1, cells := 0, slots := 0, locals := 18 } : Room).slots) := by
  refine MetFree.of_bodySF (plainFor_of_name pn_4) hisR ?_
  intro p e s m args below meth c s₁ Bd hml0 hP hK
  obtain ⟨rfl, hZ, hh⟩ := hP
  have hown : s.vm.findClass "com/example/typewire/typewire/packet/BitInputBytesBeforePinLaw" = some m.cls := findClass_of_methodNamed Bd.named
  have hnm := (name_of_methodNamed Bd.named Bd.method).1
  have X0 : Stand p l e ({ frames := 1, cells := 0, slots := 0, locals := 18 } : Room) s m #[(.ref q1), (.int q2), (.int q3), (.int q4), (.long q5)] below meth c s₁ [] 0 0 := Stand.of_body Bd
  have e0 : s₁.heap = h0 := by rw [← hh, Bd.state]; rfl
  have H := sg4_0 l hw Bd.exec hZ Bd.bytes hml0 hown hnm Bd.returns Bd.notSynchronized q1 q2 q3 q4 q5 kc_q1 w0_q1 w1_q1 w2_q1 w3_q1 Z0 X0 (Fr.nil n0) e0 A_q1
  obtain ⟨t, h1, h2, o, h3, h4⟩ := H
  exact ⟨t, o, castTop (ef_4 m q1 q2 q3 q4 q5) h1, h2, h3, h4⟩
theorem own_nneg {x : Int32} (h : 0 ≤ x.toInt ∧ x.toInt ≤ 4) : ¬ x < 0 := by
  have e : (0 : Int32).toInt = 0 := by decide
  rw [own_lt32, e]; omega
theorem own_c9 {z k : Int32} {a : Int64} (hz : 0 ≤ z.toInt ∧ z.toInt ≤ 4) (hk : k.toInt ≤ z.toInt) (ha : a.toInt = 8 * k.toInt) : ¬ ((((8 : Int64) * (z.toInt64)) - (0 : Int64)) < a) := by
  have e8 : (8 : Int64).toInt = 8 := by decide
  have e0 : (0 : Int64).toInt = 0 := by decide
  have h1 : ((8 : Int64) * (z.toInt64)).toInt = 8 * z.toInt := by rw [Jvm.Kit.i64_mul (by rw [own_sz, e8]; omega) (by rw [own_sz, e8]; omega), own_sz, e8]
  rw [own_lt64, Jvm.Kit.i64_sub (by rw [h1, e0]; omega) (by rw [h1, e0]; omega), h1, e0]; omega
theorem own_zk {z k j : Int32} (hk : k.toInt ≤ z.toInt) (hj : j.toInt + 1 = k.toInt) : j < z := by rw [own_lt32]; omega
theorem own_s5 {x y : Int32} (hn : 0 ≤ y.toInt ∧ y.toInt ≤ 4) (h : 0 ≤ x.toInt ∧ x.toInt ≤ y.toInt) : x = 0 ∨ x = 1 ∨ x = 2 ∨ x = 3 ∨ x = 4 := own_or4 ⟨h.1, by omega⟩
theorem own_sk {x y k : Int32} (h : 0 ≤ x.toInt ∧ x.toInt ≤ y.toInt) (hk : x = k) : k.toInt ≤ y.toInt := by subst hk; exact h.2
theorem own_cap {x : Int32} (h : 0 ≤ x.toInt ∧ x.toInt ≤ 4) : x.toNatClampNeg ≤ 4 := by
  have := nat_of (own_nneg h); omega
theorem pn_0 : plainName "com/example/typewire/typewire/packet/BitInputBytesBeforePinLaw" = true := by first | (simp [plainName, overriddenIn]; done) | decide +kernel
def own_f0_171_1 (v1 : Int32) (v2 : Int32) (v3 : Int32) (v4 : Int64) (v5 : Int32) (v6 : Int32) (v7 : Int32) (v8 : Int64) (u1 : Int32) (u2 : Int32) (u3 : Int32) (u4 : Int32) : Int32 :=
  if (own_f3s1 v7 v8 v5 u1 u2 u3 u4) = (own_f4 v5 (1 : Int32) v7 v8 u1 u2 u3 u4) then (1 : Int32) else
  (0 : Int32)
def own_f0_171_2 (v1 : Int32) (v2 : Int32) (v3 : Int32) (v4 : Int64) (v5 : Int32) (v6 : Int32) (v7 : Int32) (v8 : Int64) (u1 : Int32) (u2 : Int32) (u3 : Int32) (u4 : Int32) : Int32 :=
  if (own_f3s2 v7 v8 v5 u1 u2 u3 u4) = (own_f4 v5 (2 : Int32) v7 v8 u1 u2 u3 u4) then (1 : Int32) else
  (0 : Int32)
def own_f0_171_3 (v1 : Int32) (v2 : Int32) (v3 : Int32) (v4 : Int64) (v5 : Int32) (v6 : Int32) (v7 : Int32) (v8 : Int64) (u1 : Int32) (u2 : Int32) (u3 : Int32) (u4 : Int32) : Int32 :=
  if (own_f3s3 v7 v8 v5 u1 u2 u3 u4) = (own_f4 v5 (3 : Int32) v7 v8 u1 u2 u3 u4) then (1 : Int32) else
  (0 : Int32)
def own_f0_171_4 (v1 : Int32) (v2 : Int32) (v3 : Int32) (v4 : Int64) (v5 : Int32) (v6 : Int32) (v7 : Int32) (v8 : Int64) (u1 : Int32) (u2 : Int32) (u3 : Int32) (u4 : Int32) : Int32 :=
  if (own_f3s4 v7 v8 v5 u1 u2 u3 u4) = (own_f4 v5 (4 : Int32) v7 v8 u1 u2 u3 u4) then (1 : Int32) else
  (0 : Int32)
def own_f0_146 (v1 : Int32) (v2 : Int32) (v3 : Int32) (v4 : Int64) (v5 : Int32) (v6 : Int32) (v7 : Int32) (v8 : Int32) (v9 : Int64) (u1 : Int32) (u2 : Int32) (u3 : Int32) (u4 : Int32) : Int32 :=
  if v6 = (0 : Int32) then (if (own_f3s0 v8 v9 v5 u1 u2 u3 u4) = (own_f4 v5 (0 : Int32) v8 v9 u1 u2 u3 u4) then (1 : Int32) else
    (0 : Int32)) else
  if v6 = (1 : Int32) then (own_f0_171_1 v1 v2 v3 v4 v5 v7 v8 v9 u1 u2 u3 u4) else
  if v6 = (2 : Int32) then (own_f0_171_2 v1 v2 v3 v4 v5 v7 v8 v9 u1 u2 u3 u4) else
  if v6 = (3 : Int32) then (own_f0_171_3 v1 v2 v3 v4 v5 v7 v8 v9 u1 u2 u3 u4) else
  (own_f0_171_4 v1 v2 v3 v4 v5 v7 v8 v9 u1 u2 u3 u4)
def own_f0_84 (v1 : Int32) (v2 : Int32) (v3 : Int32) (v4 : Int64) (v5 : Int32) (v6 : Int32) (v7 : Int32) (v8 : Int32) (v9 : Int64) : Int32 :=
  if (0 : Int32) < v5 then (if (1 : Int32) < v5 then (if (2 : Int32) < v5 then (if (3 : Int32) < v5 then (own_f0_146 v1 v2 v3 v4 v5 v6 v7 v8 v9 (nar .byte ((own_ush32 v1 (24 : Int32)).toInt8.toInt32)) (nar .byte ((own_ush32 v1 (16 : Int32)).toInt8.toInt32)) (nar .byte ((own_ush32 v1 (8 : Int32)).toInt8.toInt32)) (nar .byte (v1.toInt8.toInt32))) else
    (own_f0_146 v1 v2 v3 v4 v5 v6 v7 v8 v9 (nar .byte ((own_ush32 v1 (24 : Int32)).toInt8.toInt32)) (nar .byte ((own_ush32 v1 (16 : Int32)).toInt8.toInt32)) (nar .byte ((own_ush32 v1 (8 : Int32)).toInt8.toInt32)) (0 : Int32))) else
    (own_f0_146 v1 v2 v3 v4 v5 v6 v7 v8 v9 (nar .byte ((own_ush32 v1 (24 : Int32)).toInt8.toInt32)) (nar .byte ((own_ush32 v1 (16 : Int32)).toInt8.toInt32)) (0 : Int32) (0 : Int32))) else
    (own_f0_146 v1 v2 v3 v4 v5 v6 v7 v8 v9 (nar .byte ((own_ush32 v1 (24 : Int32)).toInt8.toInt32)) (0 : Int32) (0 : Int32) (0 : Int32))) else
  (own_f0_146 v1 v2 v3 v4 v5 v6 v7 v8 v9 (0 : Int32) (0 : Int32) (0 : Int32) (0 : Int32))
def own_f0_62 (v1 : Int32) (v2 : Int32) (v3 : Int32) (v4 : Int64) (v5 : Int32) (v6 : Int32) (v7 : Int32) (v8 : Int32) : Int32 :=
  if ((own_ush32 v2 (9 : Int32)) &&& (1 : Int32)) = (0 : Int32) then (own_f0_84 v1 v2 v3 v4 v5 v6 v7 v8 ((v4 - (v4 / (6 : Int64)) * (6 : Int64)) - (1 : Int64))) else
  (own_f0_84 v1 v2 v3 v4 v5 v6 v7 v8 v4)
def own_f0 (q1 : Int32) (q2 : Int32) (q3 : Int32) (q4 : Int64) : Int32 :=
  if ((own_ush32 q2 (6 : Int32)) &&& (1 : Int32)) = (0 : Int32) then (own_f0_62 q1 q2 q3 q4 ((q2 &&& (7 : Int32)) - ((q2 &&& (7 : Int32)) / (5 : Int32)) * (5 : Int32)) (((own_ush32 q2 (3 : Int32)) &&& (7 : Int32)) - (((own_ush32 q2 (3 : Int32)) &&& (7 : Int32)) / (((q2 &&& (7 : Int32)) - ((q2 &&& (7 : Int32)) / (5 : Int32)) * (5 : Int32)) + (1 : Int32))) * (((q2 &&& (7 : Int32)) - ((q2 &&& (7 : Int32)) / (5 : Int32)) * (5 : Int32)) + (1 : Int32))) ((own_ush32 q2 (7 : Int32)) &&& (3 : Int32)) (q3 &&& (255 : Int32))) else
  (own_f0_62 q1 q2 q3 q4 ((q2 &&& (7 : Int32)) - ((q2 &&& (7 : Int32)) / (5 : Int32)) * (5 : Int32)) (((own_ush32 q2 (3 : Int32)) &&& (7 : Int32)) - (((own_ush32 q2 (3 : Int32)) &&& (7 : Int32)) / (((q2 &&& (7 : Int32)) - ((q2 &&& (7 : Int32)) / (5 : Int32)) * (5 : Int32)) + (1 : Int32))) * (((q2 &&& (7 : Int32)) - ((q2 &&& (7 : Int32)) / (5 : Int32)) * (5 : Int32)) + (1 : Int32))) ((own_ush32 q2 (7 : Int32)) &&& (3 : Int32)) ((own_ush32 q1 ((24 : Int32) - ((8 : Int32) * ((own_ush32 q2 (7 : Int32)) &&& (3 : Int32))))) &&& (255 : Int32)))
set_option maxRecDepth 65536 in
set_option maxHeartbeats 40000000 in
theorem sg0_171_1 {p : Program} (l : Launch) {e : Env} {s0 : State} {vm0 : Vm} {k0 : Nat} {m : MethodId} {args : Array Value} {below : List Frame} {meth : Method} {c : Code} {Z : State} {a0 : Array Value} (hw : ∀ d ∈ tables_1, d.before a0 Z = true) (hx : p.tables.exec = Jvm.exec) (hZ : Z.Warmed39 (s0.setVm vm0).vm) (hby : c.code = code) (hml : c.maxLocals = 15) (hown : (s0.setVm vm0).vm.findClass "com/example/typewire/typewire/packet/BitInputBytesBeforePinLaw" = some m.cls) (hnm : meth.name = "law") (hret : meth.sig.returnType = (some .boolean)) (hlk : meth.locks = false) (hS : s0.Since vm0 k0) (v1 : Int32) (v2 : Int32) (v3 : Int32) (v4 : Int64) (v5 : Int32) (v6 : Int32) (v7 : Int32) (v8 : Int64) (v9 : Addr) (v10 : Addr) (v11 : Addr) (kc_v9 : ClassId) (u1 : Int32) (u2 : Int32) (u3 : Int32) (u4 : Int32) {h0 : Heap} {n0 : Nat} (Z0 : n0 ≤ h0.size) (hk0 : k0 ≤ h0.size) {T0 : State} {L0 : List Loc} (X0 : Stand p l e room_1 (s0.setVm vm0) m args below meth c T0 L0 4 26) (N0 : Fr n0 L0) (e0 : T0.heap = h0) (A_v9 : Arv Z h0 v9 kc_v9 .byte v5 [(.int u1), (.int u2), (.int u3), (.int u4)] (.int (0 : Int32))) (E_v10 : Exa Z h0 v10 "com/example/typewire/typewire/packet/BitInput") (F_v10_bytes : Fld Z h0 v10 "com/example/typewire/typewire/packet/BitInput" "bytes" "[B" (.ref v9)) (F_v10_position : Fld Z h0 v10 "com/example/typewire/typewire/packet/BitInput" "position" "J" (.long (0 : Int64))) (g_v9 : n0 ≤ v9) (g_v10 : n0 ≤ v10) (ne_v9_v10 : v9 ≠ v10) (hn : 0 ≤ v5.toInt ∧ v5.toInt ≤ 4) (hsk : (1 : Int32).toInt ≤ v5.toInt) :
    own_Fin p.tables e below (own_EndW below s0 (own_L n0 (.int (own_f0_171_1 v1 v2 v3 v4 v5 v6 v7 v8 u1 u2 u3 u4))) 4 26) T0 (mkF m 171 #[.val (.int v1), .val (.int v2), .val (.int v3), .val (.long v4), .second, .val (.int v5), .val (.int (1 : Int32)), .val (.int v6), .val (.int v7), .val (.long v8), .second, .val (.ref v9), .val (.ref v10), .unset, .unset] [(.ref v11), (.int (8 : Int32)), (.ref v10)]) := by
  obtain ⟨cq278, kq278, q278a, q278b, q278c⟩ := isOf hZ e0 E_v10
  obtain ⟨_, _, ⟨T278, L278, k278, n278⟩, -, X278, ⟨Lc278, hQ278, l278, y278, z278⟩, st278⟩ := X0.virtualBack hx (y := (⟨"com/example/typewire/typewire/packet/BitInput", "readBits", "(ILjava/lang/String;)J"⟩ : MethodName)) (z := (⟨"com/example/typewire/typewire/packet/BitInput", "readBits", "(ILjava/lang/String;)J"⟩ : MethodName)) hown (mvT hZ (hw _ (List.mem_of_getElem? (i := 43) rfl))) (mvT hZ (hw _ (List.mem_of_getElem? (i := 44) rfl))) (notFace_of_selects (args := #[]) (mvT hZ (hw _ (List.mem_of_getElem? (i := 46) rfl)))) (mvT hZ (hw _ (List.mem_of_getElem? (i := 46) rfl))) (mvT hZ (hw _ (List.mem_of_getElem? (i := 45) rfl))) (by decide) (backOf (W := 0) (rm7s1 l Z a0 hw [] v10 v11 v9 v5 kc_v9 u1 u2 u3 u4 h0 n0 Z0 E_v10 g_v10 F_v10_bytes F_v10_position A_v9 g_v9 (Ne.symm ne_v9_v10) (own_zk hsk (by decide)) (own_c9 hn hsk (by decide))) hZ (hw _ (List.mem_of_getElem? (i := 47) rfl)) (hw _ (List.mem_of_getElem? (i := 4) rfl)) (by decide) (by decide)) q278a q278c (g := (mkF m 171 #[.val (.int v1), .val (.int v2), .val (.int v3), .val (.long v4), .second, .val (.int v5), .val (.int (1 : Int32)), .val (.int v6), .val (.int v7), .val (.long v8), .second, .val (.ref v9), .val (.ref v10), .unset, .unset] [(.ref v11), (.int (8 : Int32)), (.ref v10)])) rfl (by rw [hml]; rfl) (Steps.refl _) (argsL := [(.int (8 : Int32)), (.ref v11)]) (rest := []) (lenOf pd_6 rfl) rfl (by show 2 * 0 + _ ≤ _; exact Nat.le_of_eq rfl) (hb hby at_171) (fun _ _ => ⟨rfl, e0, (by decide : 4 + 0 ≤ _), (by decide : 26 + 0 ≤ _)⟩)
  dsimp only [Pt.U, Pt.locs, Pt.cells, Pt.slots] at X278 l278 y278 z278 st278 hQ278
  subst l278 y278 z278
  obtain ⟨rfl, N278q, K278', E_v10_278, F_v10_bytes_278, F_v10_position_278, A_v9_278⟩ := hQ278
  have sz278 : n0 ≤ T278.heap.size := Nat.le_trans Z0 K278'.1
  have sk278 : k0 ≤ T278.heap.size := Nat.le_trans hk0 K278'.1
  have N278 := Fr.app N0 N278q
  refine own_st ?_ (fun t k => st278.trans k)
  show own_Fin _ _ _ _ T278 (mkF m 174 #[.val (.int v1), .val (.int v2), .val (.int v3), .val (.long v4), .second, .val (.int v5), .val (.int (1 : Int32)), .val (.int v6), .val (.int v7), .val (.long v8), .second, .val (.ref v9), .val (.ref v10), .unset, .unset] [(.long (own_f7s1 v5 u1 u2 u3 u4))])
  refine own_st ?_ (fun t k => own_pop2 X278 hx (hb hby at_174) k)
  show own_Fin _ _ _ _ T278 (mkF m 175 #[.val (.int v1), .val (.int v2), .val (.int v3), .val (.long v4), .second, .val (.int v5), .val (.int (1 : Int32)), .val (.int v6), .val (.int v7), .val (.long v8), .second, .val (.ref v9), .val (.ref v10), .unset, .unset] [])
  refine own_aload X278 hx (hb hby at_175) (pc' := 177) rfl rfl rfl ?_
  refine own_iload X278 hx (hb hby at_177) (pc' := 179) rfl rfl ?_
  refine own_lload X278 hx (hb hby at_179) (pc' := 181) rfl rfl ?_
  obtain ⟨cq279, kq279, q279a, q279b, q279c⟩ := isOf hZ rfl E_v10_278
  obtain ⟨_, _, ⟨T279, L279, k279, n279⟩, -, X279, ⟨Lc279, hQ279, l279, y279, z279⟩, st279⟩ := X278.virtualBack hx (y := (⟨"com/example/typewire/typewire/packet/BitInput", "bytesBefore", "(IJ)J"⟩ : MethodName)) (z := (⟨"com/example/typewire/typewire/packet/BitInput", "bytesBefore", "(IJ)J"⟩ : MethodName)) hown (mvT hZ (hw _ (List.mem_of_getElem? (i := 13) rfl))) (mvT hZ (hw _ (List.mem_of_getElem? (i := 14) rfl))) (notFace_of_selects (args := #[]) (mvT hZ (hw _ (List.mem_of_getElem? (i := 16) rfl)))) (mvT hZ (hw _ (List.mem_of_getElem? (i := 16) rfl))) (mvT hZ (hw _ (List.mem_of_getElem? (i := 15) rfl))) (by decide) (backOf (W := 0) (rm3s1 l Z a0 hw [] v10 v7 v8 v9 v5 kc_v9 u1 u2 u3 u4 T278.heap n0 sz278 E_v10_278 F_v10_bytes_278 F_v10_position_278 A_v9_278 hn) hZ (hw _ (List.mem_of_getElem? (i := 17) rfl)) (hw _ (List.mem_of_getElem? (i := 4) rfl)) (by decide) (by decide)) q279a q279c (g := (mkF m 181 #[.val (.int v1), .val (.int v2), .val (.int v3), .val (.long v4), .second, .val (.int v5), .val (.int (1 : Int32)), .val (.int v6), .val (.int v7), .val (.long v8), .second, .val (.ref v9), .val (.ref v10), .unset, .unset] [(.long v8), (.int v7), (.ref v10)])) rfl (by rw [hml]; rfl) (Steps.refl _) (argsL := [(.int v7), (.long v8)]) (rest := []) (lenOf pd_4 rfl) rfl (by show 2 * 0 + _ ≤ _; exact Nat.le_of_eq rfl) (hb hby at_181) (fun _ _ => ⟨rfl, rfl, (by decide : 4 + 0 ≤ _), (by decide : 26 + 0 ≤ _)⟩)
  dsimp only [Pt.U, Pt.locs, Pt.cells, Pt.slots] at X279 l279 y279 z279 st279 hQ279
  subst l279 y279 z279
  obtain ⟨rfl, N279q, e279'⟩ := hQ279
  have N279 := Fr.app N278 N279q
  refine own_st ?_ (fun t k => st279.trans k)
  show own_Fin _ _ _ _ T279 (mkF m 184 #[.val (.int v1), .val (.int v2), .val (.int v3), .val (.long v4), .second, .val (.int v5), .val (.int (1 : Int32)), .val (.int v6), .val (.int v7), .val (.long v8), .second, .val (.ref v9), .val (.ref v10), .unset, .unset] [(.long (own_f3s1 v7 v8 v5 u1 u2 u3 u4))])
  refine own_lstore X279 hx (hb hby at_184) (pc' := 186) rfl (Ls' := #[.val (.int v1), .val (.int v2), .val (.int v3), .val (.long v4), .second, .val (.int v5), .val (.int (1 : Int32)), .val (.int v6), .val (.int v7), .val (.long v8), .second, .val (.ref v9), .val (.ref v10), .val (.long (own_f3s1 v7 v8 v5 u1 u2 u3 u4)), .second]) rfl ?_
  refine own_lload X279 hx (hb hby at_186) (pc' := 188) rfl rfl ?_
  refine own_aload X279 hx (hb hby at_188) (pc' := 190) rfl rfl rfl ?_
  refine own_iload X279 hx (hb hby at_190) (pc' := 192) rfl rfl ?_
  refine own_iload X279 hx (hb hby at_192) (pc' := 194) rfl rfl ?_
  refine own_iload X279 hx (hb hby at_194) (pc' := 196) rfl rfl ?_
  refine own_lload X279 hx (hb hby at_196) (pc' := 198) rfl rfl ?_
  obtain ⟨_, _, ⟨T280, L280, k280, n280⟩, -, X280, ⟨Lc280, hQ280, l280, y280, z280⟩, st280⟩ := Jvm.LawKit.callS X279 hx (y := (⟨"com/example/typewire/typewire/packet/BitInputBytesBeforePinLaw", "expected", "([BIIIJ)J"⟩ : MethodName)) hown (mvT hZ (hw _ (List.mem_of_getElem? (i := 22) rfl))) (mvT hZ (hw _ (List.mem_of_getElem? (i := 23) rfl))) (mvT hZ (hw _ (List.mem_of_getElem? (i := 24) rfl))) (mvT hZ (hw _ (List.mem_of_getElem? (i := 25) rfl))) (by decide) (backOf (W := 2) (rm4 l Z a0 hw [] v9 v5 (1 : Int32) v7 v8 kc_v9 u1 u2 u3 u4 T278.heap n0 sz278 A_v9_278) hZ (hw _ (List.mem_of_getElem? (i := 25) rfl)) (hw _ (List.mem_of_getElem? (i := 24) rfl)) (by decide) (by decide)) (g := (mkF m 198 #[.val (.int v1), .val (.int v2), .val (.int v3), .val (.long v4), .second, .val (.int v5), .val (.int (1 : Int32)), .val (.int v6), .val (.int v7), .val (.long v8), .second, .val (.ref v9), .val (.ref v10), .val (.long (own_f3s1 v7 v8 v5 u1 u2 u3 u4)), .second] [(.long v8), (.int v7), (.int (1 : Int32)), (.int v5), (.ref v9), (.long (own_f3s1 v7 v8 v5 u1 u2 u3 u4))])) rfl (by rw [hml]; rfl) (argsL := [(.ref v9), (.int v5), (.int (1 : Int32)), (.int v7), (.long v8)]) (rest := [(.long (own_f3s1 v7 v8 v5 u1 u2 u3 u4))]) (lenOf pd_5 rfl) rfl (by show 2 * 0 + _ ≤ _; exact Nat.le_of_eq rfl) (hb hby at_198) (fun _ _ => ⟨rfl, e279', (by decide : 4 + 0 ≤ _), (by decide : 26 + 0 ≤ _)⟩)
  dsimp only [Pt.U, Pt.locs, Pt.cells, Pt.slots] at X280 l280 y280 z280 st280 hQ280
  subst l280 y280 z280
  obtain ⟨rfl, N280q, e280'⟩ := hQ280
  have N280 := Fr.app N279 N280q
  refine own_st ?_ st280
  show own_Fin _ _ _ _ T280 (mkF m 201 #[.val (.int v1), .val (.int v2), .val (.int v3), .val (.long v4), .second, .val (.int v5), .val (.int (1 : Int32)), .val (.int v6), .val (.int v7), .val (.long v8), .second, .val (.ref v9), .val (.ref v10), .val (.long (own_f3s1 v7 v8 v5 u1 u2 u3 u4)), .second] [(.long (own_f4 v5 (1 : Int32) v7 v8 u1 u2 u3 u4)), (.long (own_f3s1 v7 v8 v5 u1 u2 u3 u4))])
  refine own_lcmp X280 hx (hb hby at_201) (pc' := 202) rfl ?_
  by_cases hc281 : (own_f3s1 v7 v8 v5 u1 u2 u3 u4) = (own_f4 v5 (1 : Int32) v7 v8 u1 u2 u3 u4)
  · refine own_ifNo X280 hx (hb hby at_202) (pc' := 205) rfl ((if0 _ _).trans (teq (own_lc_eq.mpr hc281)).2) ?_
    refine own_aload X280 hx (hb hby at_205) (pc' := 207) rfl rfl rfl ?_
    obtain ⟨cq282, kq282, q282a, q282b, q282c⟩ := isOf hZ e280' E_v10_278
    obtain ⟨_, _, ⟨T282, L282, k282, n282⟩, -, X282, ⟨Lc282, hQ282, l282, y282, z282⟩, st282⟩ := X280.virtualBack hx (y := (⟨"com/example/typewire/typewire/packet/BitInput", "position", "()J"⟩ : MethodName)) (z := (⟨"com/example/typewire/typewire/packet/BitInput", "position", "()J"⟩ : MethodName)) hown (mvT hZ (hw _ (List.mem_of_getElem? (i := 30) rfl))) (mvT hZ (hw _ (List.mem_of_getElem? (i := 31) rfl))) (notFace_of_selects (args := #[]) (mvT hZ (hw _ (List.mem_of_getElem? (i := 33) rfl)))) (mvT hZ (hw _ (List.mem_of_getElem? (i := 33) rfl))) (mvT hZ (hw _ (List.mem_of_getElem? (i := 32) rfl))) (by decide) (backOf (W := 0) (rm6 l Z a0 hw [] v10 v9 (8 : Int64) T278.heap n0 sz278 E_v10_278 F_v10_bytes_278 F_v10_position_278) hZ (hw _ (List.mem_of_getElem? (i := 34) rfl)) (hw _ (List.mem_of_getElem? (i := 4) rfl)) (by decide) (by decide)) q282a q282c (g := (mkF m 207 #[.val (.int v1), .val (.int v2), .val (.int v3), .val (.long v4), .second, .val (.int v5), .val (.int (1 : Int32)), .val (.int v6), .val (.int v7), .val (.long v8), .second, .val (.ref v9), .val (.ref v10), .val (.long (own_f3s1 v7 v8 v5 u1 u2 u3 u4)), .second] [(.ref v10)])) rfl (by rw [hml]; rfl) (Steps.refl _) (argsL := []) (rest := []) (lenOf pd_0 rfl) rfl (by show 2 * 0 + _ ≤ _; exact Nat.le_of_eq rfl) (hb hby at_207) (fun _ _ => ⟨rfl, e280', (by decide : 4 + 0 ≤ _), (by decide : 26 + 0 ≤ _)⟩)
    dsimp only [Pt.U, Pt.locs, Pt.cells, Pt.slots] at X282 l282 y282 z282 st282 hQ282
    subst l282 y282 z282
    obtain ⟨rfl, N282q, e282'⟩ := hQ282
    have N282 := Fr.app N280 N282q
    refine own_st ?_ (fun t k => st282.trans k)
    show own_Fin _ _ _ _ T282 (mkF m 210 #[.val (.int v1), .val (.int v2), .val (.int v3), .val (.long v4), .second, .val (.int v5), .val (.int (1 : Int32)), .val (.int v6), .val (.int v7), .val (.long v8), .second, .val (.ref v9), .val (.ref v10), .val (.long (own_f3s1 v7 v8 v5 u1 u2 u3 u4)), .second] [(.long (8 : Int64))])
    refine own_ldc2Long X282 hx hZ hown (hw _ (List.mem_of_getElem? (i := 35) rfl)) (hb hby at_210) (pc' := 213) rfl ?_
    refine own_iload X282 hx (hb hby at_213) (pc' := 215) rfl rfl ?_
    refine own_i2l X282 hx (hb hby at_215) (pc' := 216) rfl ?_
    show own_Fin _ _ _ _ T282 (mkF m 216 #[.val (.int v1), .val (.int v2), .val (.int v3), .val (.long v4), .second, .val (.int v5), .val (.int (1 : Int32)), .val (.int v6), .val (.int v7), .val (.long v8), .second, .val (.ref v9), .val (.ref v10), .val (.long (own_f3s1 v7 v8 v5 u1 u2 u3 u4)), .second] [(.long (1 : Int64)), (.long (8 : Int64)), (.long (8 : Int64))])
    refine own_lmul X282 hx (hb hby at_216) (pc' := 217) rfl ?_
    show own_Fin _ _ _ _ T282 (mkF m 217 #[.val (.int v1), .val (.int v2), .val (.int v3), .val (.long v4), .second, .val (.int v5), .val (.int (1 : Int32)), .val (.int v6), .val (.int v7), .val (.long v8), .second, .val (.ref v9), .val (.ref v10), .val (.long (own_f3s1 v7 v8 v5 u1 u2 u3 u4)), .second] [(.long (8 : Int64)), (.long (8 : Int64))])
    refine own_lcmp X282 hx (hb hby at_217) (pc' := 218) rfl ?_
    refine own_ifNo X282 hx (hb hby at_218) (pc' := 221) rfl ((if0 _ _).trans (teq (own_lc_eq.mpr (by decide : (8 : Int64) = (8 : Int64)))).2) ?_
    refine own_iconst X282 hx (hb hby at_221) (pc' := 222) rfl (v := (1 : Int32)) rfl ?_
    refine own_goto X282 hx (hb hby at_222) (pc' := 226) (by decide) (by decide) ?_
    refine own_retNW X282 hx hS (by rw [e282']; exact sk278) hret (by simp) hlk (hb hby at_226) (by decide) (by decide) ?_
    exact ⟨(congrArg some (congrArg Value.int (show _ = (own_f0_171_1 v1 v2 v3 v4 v5 v6 v7 v8 u1 u2 u3 u4) from by rw [own_f0_171_1, if_pos hc281]; rfl))), N282⟩
  · refine own_ifYes X280 hx (hb hby at_202) ((if0 _ _).trans (feq (mt own_lc_eq.mp hc281)).2) (pc' := 225) (by decide) (by decide) ?_
    refine own_iconst X280 hx (hb hby at_225) (pc' := 226) rfl (v := (0 : Int32)) rfl ?_
    refine own_retNW X280 hx hS (by rw [e280']; exact sk278) hret (by simp) hlk (hb hby at_226) (by decide) (by decide) ?_
    exact ⟨(congrArg some (congrArg Value.int (show _ = (own_f0_171_1 v1 v2 v3 v4 v5 v6 v7 v8 u1 u2 u3 u4) from by rw [own_f0_171_1, if_neg hc281]; rfl))), N280⟩
set_option maxRecDepth 65536 in
set_option maxHeartbeats 40000000 in
theorem sg0_171_2 {p : Program} (l : Launch) {e : Env} {s0 : State} {vm0 : Vm} {k0 : Nat} {m : MethodId} {args : Array Value} {below : List Frame} {meth : Method} {c : Code} {Z : State} {a0 : Array Value} (hw : ∀ d ∈ tables_1, d.before a0 Z = true) (hx : p.tables.exec = Jvm.exec) (hZ : Z.Warmed39 (s0.setVm vm0).vm) (hby : c.code = code) (hml : c.maxLocals = 15) (hown : (s0.setVm vm0).vm.findClass "com/example/typewire/typewire/packet/BitInputBytesBeforePinLaw" = some m.cls) (hnm : meth.name = "law") (hret : meth.sig.returnType = (some .boolean)) (hlk : meth.locks = false) (hS : s0.Since vm0 k0) (v1 : Int32) (v2 : Int32) (v3 : Int32) (v4 : Int64) (v5 : Int32) (v6 : Int32) (v7 : Int32) (v8 : Int64) (v9 : Addr) (v10 : Addr) (v11 : Addr) (kc_v9 : ClassId) (u1 : Int32) (u2 : Int32) (u3 : Int32) (u4 : Int32) {h0 : Heap} {n0 : Nat} (Z0 : n0 ≤ h0.size) (hk0 : k0 ≤ h0.size) {T0 : State} {L0 : List Loc} (X0 : Stand p l e room_1 (s0.setVm vm0) m args below meth c T0 L0 4 26) (N0 : Fr n0 L0) (e0 : T0.heap = h0) (A_v9 : Arv Z h0 v9 kc_v9 .byte v5 [(.int u1), (.int u2), (.int u3), (.int u4)] (.int (0 : Int32))) (E_v10 : Exa Z h0 v10 "com/example/typewire/typewire/packet/BitInput") (F_v10_bytes : Fld Z h0 v10 "com/example/typewire/typewire/packet/BitInput" "bytes" "[B" (.ref v9)) (F_v10_position : Fld Z h0 v10 "com/example/typewire/typewire/packet/BitInput" "position" "J" (.long (0 : Int64))) (g_v9 : n0 ≤ v9) (g_v10 : n0 ≤ v10) (ne_v9_v10 : v9 ≠ v10) (hn : 0 ≤ v5.toInt ∧ v5.toInt ≤ 4) (hsk : (2 : Int32).toInt ≤ v5.toInt) :
    own_Fin p.tables e below (own_EndW below s0 (own_L n0 (.int (own_f0_171_2 v1 v2 v3 v4 v5 v6 v7 v8 u1 u2 u3 u4))) 4 26) T0 (mkF m 171 #[.val (.int v1), .val (.int v2), .val (.int v3), .val (.long v4), .second, .val (.int v5), .val (.int (2 : Int32)), .val (.int v6), .val (.int v7), .val (.long v8), .second, .val (.ref v9), .val (.ref v10), .unset, .unset] [(.ref v11), (.int (16 : Int32)), (.ref v10)]) := by
  obtain ⟨cq283, kq283, q283a, q283b, q283c⟩ := isOf hZ e0 E_v10
  obtain ⟨_, _, ⟨T283, L283, k283, n283⟩, -, X283, ⟨Lc283, hQ283, l283, y283, z283⟩, st283⟩ := X0.virtualBack hx (y := (⟨"com/example/typewire/typewire/packet/BitInput", "readBits", "(ILjava/lang/String;)J"⟩ : MethodName)) (z := (⟨"com/example/typewire/typewire/packet/BitInput", "readBits", "(ILjava/lang/String;)J"⟩ : MethodName)) hown (mvT hZ (hw _ (List.mem_of_getElem? (i := 43) rfl))) (mvT hZ (hw _ (List.mem_of_getElem? (i := 44) rfl))) (notFace_of_selects (args := #[]) (mvT hZ (hw _ (List.mem_of_getElem? (i := 46) rfl)))) (mvT hZ (hw _ (List.mem_of_getElem? (i := 46) rfl))) (mvT hZ (hw _ (List.mem_of_getElem? (i := 45) rfl))) (by decide) (backOf (W := 0) (rm7s2 l Z a0 hw [] v10 v11 v9 v5 kc_v9 u1 u2 u3 u4 h0 n0 Z0 E_v10 g_v10 F_v10_bytes F_v10_position A_v9 g_v9 (Ne.symm ne_v9_v10) (own_zk hsk (by decide)) (own_c9 hn hsk (by decide))) hZ (hw _ (List.mem_of_getElem? (i := 47) rfl)) (hw _ (List.mem_of_getElem? (i := 4) rfl)) (by decide) (by decide)) q283a q283c (g := (mkF m 171 #[.val (.int v1), .val (.int v2), .val (.int v3), .val (.long v4), .second, .val (.int v5), .val (.int (2 : Int32)), .val (.int v6), .val (.int v7), .val (.long v8), .second, .val (.ref v9), .val (.ref v10), .unset, .unset] [(.ref v11), (.int (16 : Int32)), (.ref v10)])) rfl (by rw [hml]; rfl) (Steps.refl _) (argsL := [(.int (16 : Int32)), (.ref v11)]) (rest := []) (lenOf pd_6 rfl) rfl (by show 2 * 0 + _ ≤ _; exact Nat.le_of_eq rfl) (hb hby at_171) (fun _ _ => ⟨rfl, e0, (by decide : 4 + 0 ≤ _), (by decide : 26 + 0 ≤ _)⟩)
  dsimp only [Pt.U, Pt.locs, Pt.cells, Pt.slots] at X283 l283 y283 z283 st283 hQ283
  subst l283 y283 z283
  obtain ⟨rfl, N283q, K283', E_v10_283, F_v10_bytes_283, F_v10_position_283, A_v9_283⟩ := hQ283
  have sz283 : n0 ≤ T283.heap.size := Nat.le_trans Z0 K283'.1
  have sk283 : k0 ≤ T283.heap.size := Nat.le_trans hk0 K283'.1
  have N283 := Fr.app N0 N283q
  refine own_st ?_ (fun t k => st283.trans k)
  show own_Fin _ _ _ _ T283 (mkF m 174 #[.val (.int v1), .val (.int v2), .val (.int v3), .val (.long v4), .second, .val (.int v5), .val (.int (2 : Int32)), .val (.int v6), .val (.int v7), .val (.long v8), .second, .val (.ref v9), .val (.ref v10), .unset, .unset] [(.long (own_f7s2 v5 u1 u2 u3 u4))])
  refine own_st ?_ (fun t k => own_pop2 X283 hx (hb hby at_174) k)
  show own_Fin _ _ _ _ T283 (mkF m 175 #[.val (.int v1), .val (.int v2), .val (.int v3), .val (.long v4), .second, .val (.int v5), .val (.int (2 : Int32)), .val (.int v6), .val (.int v7), .val (.long v8), .second, .val (.ref v9), .val (.ref v10), .unset, .unset] [])
  refine own_aload X283 hx (hb hby at_175) (pc' := 177) rfl rfl rfl ?_
  refine own_iload X283 hx (hb hby at_177) (pc' := 179) rfl rfl ?_
  refine own_lload X283 hx (hb hby at_179) (pc' := 181) rfl rfl ?_
  obtain ⟨cq284, kq284, q284a, q284b, q284c⟩ := isOf hZ rfl E_v10_283
  obtain ⟨_, _, ⟨T284, L284, k284, n284⟩, -, X284, ⟨Lc284, hQ284, l284, y284, z284⟩, st284⟩ := X283.virtualBack hx (y := (⟨"com/example/typewire/typewire/packet/BitInput", "bytesBefore", "(IJ)J"⟩ : MethodName)) (z := (⟨"com/example/typewire/typewire/packet/BitInput", "bytesBefore", "(IJ)J"⟩ : MethodName)) hown (mvT hZ (hw _ (List.mem_of_getElem? (i := 13) rfl))) (mvT hZ (hw _ (List.mem_of_getElem? (i := 14) rfl))) (notFace_of_selects (args := #[]) (mvT hZ (hw _ (List.mem_of_getElem? (i := 16) rfl)))) (mvT hZ (hw _ (List.mem_of_getElem? (i := 16) rfl))) (mvT hZ (hw _ (List.mem_of_getElem? (i := 15) rfl))) (by decide) (backOf (W := 0) (rm3s2 l Z a0 hw [] v10 v7 v8 v9 v5 kc_v9 u1 u2 u3 u4 T283.heap n0 sz283 E_v10_283 F_v10_bytes_283 F_v10_position_283 A_v9_283 hn) hZ (hw _ (List.mem_of_getElem? (i := 17) rfl)) (hw _ (List.mem_of_getElem? (i := 4) rfl)) (by decide) (by decide)) q284a q284c (g := (mkF m 181 #[.val (.int v1), .val (.int v2), .val (.int v3), .val (.long v4), .second, .val (.int v5), .val (.int (2 : Int32)), .val (.int v6), .val (.int v7), .val (.long v8), .second, .val (.ref v9), .val (.ref v10), .unset, .unset] [(.long v8), (.int v7), (.ref v10)])) rfl (by rw [hml]; rfl) (Steps.refl _) (argsL := [(.int v7), (.long v8)]) (rest := []) (lenOf pd_4 rfl) rfl (by show 2 * 0 + _ ≤ _; exact Nat.le_of_eq rfl) (hb hby at_181) (fun _ _ => ⟨rfl, rfl, (by decide : 4 + 0 ≤ _), (by decide : 26 + 0 ≤ _)⟩)
  dsimp only [Pt.U, Pt.locs, Pt.cells, Pt.slots] at X284 l284 y284 z284 st284 hQ284
  subst l284 y284 z284
  obtain ⟨rfl, N284q, e284'⟩ := hQ284
  have N284 := Fr.app N283 N284q
  refine own_st ?_ (fun t k => st284.trans k)
  show own_Fin _ _ _ _ T284 (mkF m 184 #[.val (.int v1), .val (.int v2), .val (.int v3), .val (.long v4), .second, .val (.int v5), .val (.int (2 : Int32)), .val (.int v6), .val (.int v7), .val (.long v8), .second, .val (.ref v9), .val (.ref v10), .unset, .unset] [(.long (own_f3s2 v7 v8 v5 u1 u2 u3 u4))])
  refine own_lstore X284 hx (hb hby at_184) (pc' := 186) rfl (Ls' := #[.val (.int v1), .val (.int v2), .val (.int v3), .val (.long v4), .second, .val (.int v5), .val (.int (2 : Int32)), .val (.int v6), .val (.int v7), .val (.long v8), .second, .val (.ref v9), .val (.ref v10), .val (.long (own_f3s2 v7 v8 v5 u1 u2 u3 u4)), .second]) rfl ?_
  refine own_lload X284 hx (hb hby at_186) (pc' := 188) rfl rfl ?_
  refine own_aload X284 hx (hb hby at_188) (pc' := 190) rfl rfl rfl ?_
  refine own_iload X284 hx (hb hby at_190) (pc' := 192) rfl rfl ?_
  refine own_iload X284 hx (hb hby at_192) (pc' := 194) rfl rfl ?_
  refine own_iload X284 hx (hb hby at_194) (pc' := 196) rfl rfl ?_
  refine own_lload X284 hx (hb hby at_196) (pc' := 198) rfl rfl ?_
  obtain ⟨_, _, ⟨T285, L285, k285, n285⟩, -, X285, ⟨Lc285, hQ285, l285, y285, z285⟩, st285⟩ := Jvm.LawKit.callS X284 hx (y := (⟨"com/example/typewire/typewire/packet/BitInputBytesBeforePinLaw", "expected", "([BIIIJ)J"⟩ : MethodName)) hown (mvT hZ (hw _ (List.mem_of_getElem? (i := 22) rfl))) (mvT hZ (hw _ (List.mem_of_getElem? (i := 23) rfl))) (mvT hZ (hw _ (List.mem_of_getElem? (i := 24) rfl))) (mvT hZ (hw _ (List.mem_of_getElem? (i := 25) rfl))) (by decide) (backOf (W := 2) (rm4 l Z a0 hw [] v9 v5 (2 : Int32) v7 v8 kc_v9 u1 u2 u3 u4 T283.heap n0 sz283 A_v9_283) hZ (hw _ (List.mem_of_getElem? (i := 25) rfl)) (hw _ (List.mem_of_getElem? (i := 24) rfl)) (by decide) (by decide)) (g := (mkF m 198 #[.val (.int v1), .val (.int v2), .val (.int v3), .val (.long v4), .second, .val (.int v5), .val (.int (2 : Int32)), .val (.int v6), .val (.int v7), .val (.long v8), .second, .val (.ref v9), .val (.ref v10), .val (.long (own_f3s2 v7 v8 v5 u1 u2 u3 u4)), .second] [(.long v8), (.int v7), (.int (2 : Int32)), (.int v5), (.ref v9), (.long (own_f3s2 v7 v8 v5 u1 u2 u3 u4))])) rfl (by rw [hml]; rfl) (argsL := [(.ref v9), (.int v5), (.int (2 : Int32)), (.int v7), (.long v8)]) (rest := [(.long (own_f3s2 v7 v8 v5 u1 u2 u3 u4))]) (lenOf pd_5 rfl) rfl (by show 2 * 0 + _ ≤ _; exact Nat.le_of_eq rfl) (hb hby at_198) (fun _ _ => ⟨rfl, e284', (by decide : 4 + 0 ≤ _), (by decide : 26 + 0 ≤ _)⟩)
  dsimp only [Pt.U, Pt.locs, Pt.cells, Pt.slots] at X285 l285 y285 z285 st285 hQ285
  subst l285 y285 z285
  obtain ⟨rfl, N285q, e285'⟩ := hQ285
  have N285 := Fr.app N284 N285q
  refine own_st ?_ st285
  show own_Fin _ _ _ _ T285 (mkF m 201 #[.val (.int v1), .val (.int v2), .val (.int v3), .val (.long v4), .second, .val (.int v5), .val (.int (2 : Int32)), .val (.int v6), .val (.int v7), .val (.long v8), .second, .val (.ref v9), .val (.ref v10), .val (.long (own_f3s2 v7 v8 v5 u1 u2 u3 u4)), .second] [(.long (own_f4 v5 (2 : Int32) v7 v8 u1 u2 u3 u4)), (.long (own_f3s2 v7 v8 v5 u1 u2 u3 u4))])
  refine own_lcmp X285 hx (hb hby at_201) (pc' := 202) rfl ?_
  by_cases hc286 : (own_f3s2 v7 v8 v5 u1 u2 u3 u4) = (own_f4 v5 (2 : Int32) v7 v8 u1 u2 u3 u4)
  · refine own_ifNo X285 hx (hb hby at_202) (pc' := 205) rfl ((if0 _ _).trans (teq (own_lc_eq.mpr hc286)).2) ?_
    refine own_aload X285 hx (hb hby at_205) (pc' := 207) rfl rfl rfl ?_
    obtain ⟨cq287, kq287, q287a, q287b, q287c⟩ := isOf hZ e285' E_v10_283
    obtain ⟨_, _, ⟨T287, L287, k287, n287⟩, -, X287, ⟨Lc287, hQ287, l287, y287, z287⟩, st287⟩ := X285.virtualBack hx (y := (⟨"com/example/typewire/typewire/packet/BitInput", "position", "()J"⟩ : MethodName)) (z := (⟨"com/example/typewire/typewire/packet/BitInput", "position", "()J"⟩ : MethodName)) hown (mvT hZ (hw _ (List.mem_of_getElem? (i := 30) rfl))) (mvT hZ (hw _ (List.mem_of_getElem? (i := 31) rfl))) (notFace_of_selects (args := #[]) (mvT hZ (hw _ (List.mem_of_getElem? (i := 33) rfl)))) (mvT hZ (hw _ (List.mem_of_getElem? (i := 33) rfl))) (mvT hZ (hw _ (List.mem_of_getElem? (i := 32) rfl))) (by decide) (backOf (W := 0) (rm6 l Z a0 hw [] v10 v9 (16 : Int64) T283.heap n0 sz283 E_v10_283 F_v10_bytes_283 F_v10_position_283) hZ (hw _ (List.mem_of_getElem? (i := 34) rfl)) (hw _ (List.mem_of_getElem? (i := 4) rfl)) (by decide) (by decide)) q287a q287c (g := (mkF m 207 #[.val (.int v1), .val (.int v2), .val (.int v3), .val (.long v4), .second, .val (.int v5), .val (.int (2 : Int32)), .val (.int v6), .val (.int v7), .val (.long v8), .second, .val (.ref v9), .val (.ref v10), .val (.long (own_f3s2 v7 v8 v5 u1 u2 u3 u4)), .second] [(.ref v10)])) rfl (by rw [hml]; rfl) (Steps.refl _) (argsL := []) (rest := []) (lenOf pd_0 rfl) rfl (by show 2 * 0 + _ ≤ _; exact Nat.le_of_eq rfl) (hb hby at_207) (fun _ _ => ⟨rfl, e285', (by decide : 4 + 0 ≤ _), (by decide : 26 + 0 ≤ _)⟩)
    dsimp only [Pt.U, Pt.locs, Pt.cells, Pt.slots] at X287 l287 y287 z287 st287 hQ287
    subst l287 y287 z287
    obtain ⟨rfl, N287q, e287'⟩ := hQ287
    have N287 := Fr.app N285 N287q
    refine own_st ?_ (fun t k => st287.trans k)
    show own_Fin _ _ _ _ T287 (mkF m 210 #[.val (.int v1), .val (.int v2), .val (.int v3), .val (.long v4), .second, .val (.int v5), .val (.int (2 : Int32)), .val (.int v6), .val (.int v7), .val (.long v8), .second, .val (.ref v9), .val (.ref v10), .val (.long (own_f3s2 v7 v8 v5 u1 u2 u3 u4)), .second] [(.long (16 : Int64))])
    refine own_ldc2Long X287 hx hZ hown (hw _ (List.mem_of_getElem? (i := 35) rfl)) (hb hby at_210) (pc' := 213) rfl ?_
    refine own_iload X287 hx (hb hby at_213) (pc' := 215) rfl rfl ?_
    refine own_i2l X287 hx (hb hby at_215) (pc' := 216) rfl ?_
    show own_Fin _ _ _ _ T287 (mkF m 216 #[.val (.int v1), .val (.int v2), .val (.int v3), .val (.long v4), .second, .val (.int v5), .val (.int (2 : Int32)), .val (.int v6), .val (.int v7), .val (.long v8), .second, .val (.ref v9), .val (.ref v10), .val (.long (own_f3s2 v7 v8 v5 u1 u2 u3 u4)), .second] [(.long (2 : Int64)), (.long (8 : Int64)), (.long (16 : Int64))])
    refine own_lmul X287 hx (hb hby at_216) (pc' := 217) rfl ?_
    show own_Fin _ _ _ _ T287 (mkF m 217 #[.val (.int v1), .val (.int v2), .val (.int v3), .val (.long v4), .second, .val (.int v5), .val (.int (2 : Int32)), .val (.int v6), .val (.int v7), .val (.long v8), .second, .val (.ref v9), .val (.ref v10), .val (.long (own_f3s2 v7 v8 v5 u1 u2 u3 u4)), .second] [(.long (16 : Int64)), (.long (16 : Int64))])
    refine own_lcmp X287 hx (hb hby at_217) (pc' := 218) rfl ?_
    refine own_ifNo X287 hx (hb hby at_218) (pc' := 221) rfl ((if0 _ _).trans (teq (own_lc_eq.mpr (by decide : (16 : Int64) = (16 : Int64)))).2) ?_
    refine own_iconst X287 hx (hb hby at_221) (pc' := 222) rfl (v := (1 : Int32)) rfl ?_
    refine own_goto X287 hx (hb hby at_222) (pc' := 226) (by decide) (by decide) ?_
    refine own_retNW X287 hx hS (by rw [e287']; exact sk283) hret (by simp) hlk (hb hby at_226) (by decide) (by decide) ?_
    exact ⟨(congrArg some (congrArg Value.int (show _ = (own_f0_171_2 v1 v2 v3 v4 v5 v6 v7 v8 u1 u2 u3 u4) from by rw [own_f0_171_2, if_pos hc286]; rfl))), N287⟩
  · refine own_ifYes X285 hx (hb hby at_202) ((if0 _ _).trans (feq (mt own_lc_eq.mp hc286)).2) (pc' := 225) (by decide) (by decide) ?_
    refine own_iconst X285 hx (hb hby at_225) (pc' := 226) rfl (v := (0 : Int32)) rfl ?_
    refine own_retNW X285 hx hS (by rw [e285']; exact sk283) hret (by simp) hlk (hb hby at_226) (by decide) (by decide) ?_
    exact ⟨(congrArg some (congrArg Value.int (show _ = (own_f0_171_2 v1 v2 v3 v4 v5 v6 v7 v8 u1 u2 u3 u4) from by rw [own_f0_171_2, if_neg hc286]; rfl))), N285⟩
set_option maxRecDepth 65536 in
set_option maxHeartbeats 40000000 in
theorem sg0_171_3 {p : Program} (l : Launch) {e : Env} {s0 : State} {vm0 : Vm} {k0 : Nat} {m : MethodId} {args : Array Value} {below : List Frame} {meth : Method} {c : Code} {Z : State} {a0 : Array Value} (hw : ∀ d ∈ tables_1, d.before a0 Z = true) (hx : p.tables.exec = Jvm.exec) (hZ : Z.Warmed39 (s0.setVm vm0).vm) (hby : c.code = code) (hml : c.maxLocals = 15) (hown : (s0.setVm vm0).vm.findClass "com/example/typewire/typewire/packet/BitInputBytesBeforePinLaw" = some m.cls) (hnm : meth.name = "law") (hret : meth.sig.returnType = (some .boolean)) (hlk : meth.locks = false) (hS : s0.Since vm0 k0) (v1 : Int32) (v2 : Int32) (v3 : Int32) (v4 : Int64) (v5 : Int32) (v6 : Int32) (v7 : Int32) (v8 : Int64) (v9 : Addr) (v10 : Addr) (v11 : Addr) (kc_v9 : ClassId) (u1 : Int32) (u2 : Int32) (u3 : Int32) (u4 : Int32) {h0 : Heap} {n0 : Nat} (Z0 : n0 ≤ h0.size) (hk0 : k0 ≤ h0.size) {T0 : State} {L0 : List Loc} (X0 : Stand p l e room_1 (s0.setVm vm0) m args below meth c T0 L0 4 26) (N0 : Fr n0 L0) (e0 : T0.heap = h0) (A_v9 : Arv Z h0 v9 kc_v9 .byte v5 [(.int u1), (.int u2), (.int u3), (.int u4)] (.int (0 : Int32))) (E_v10 : Exa Z h0 v10 "com/example/typewire/typewire/packet/BitInput") (F_v10_bytes : Fld Z h0 v10 "com/example/typewire/typewire/packet/BitInput" "bytes" "[B" (.ref v9)) (F_v10_position : Fld Z h0 v10 "com/example/typewire/typewire/packet/BitInput" "position" "J" (.long (0 : Int64))) (g_v9 : n0 ≤ v9) (g_v10 : n0 ≤ v10) (ne_v9_v10 : v9 ≠ v10) (hn : 0 ≤ v5.toInt ∧ v5.toInt ≤ 4) (hsk : (3 : Int32).toInt ≤ v5.toInt) :
    own_Fin p.tables e below (own_EndW below s0 (own_L n0 (.int (own_f0_171_3 v1 v2 v3 v4 v5 v6 v7 v8 u1 u2 u3 u4))) 4 26) T0 (mkF m 171 #[.val (.int v1), .val (.int v2), .val (.int v3), .val (.long v4), .second, .val (.int v5), .val (.int (3 : Int32)), .val (.int v6), .val (.int v7), .val (.long v8), .second, .val (.ref v9), .val (.ref v10), .unset, .unset] [(.ref v11), (.int (24 : Int32)), (.ref v10)]) := by
  obtain ⟨cq288, kq288, q288a, q288b, q288c⟩ := isOf hZ e0 E_v10
  obtain ⟨_, _, ⟨T288, L288, k288, n288⟩, -, X288, ⟨Lc288, hQ288, l288, y288, z288⟩, st288⟩ := X0.virtualBack hx (y := (⟨"com/example/typewire/typewire/packet/BitInput", "readBits", "(ILjava/lang/String;)J"⟩ : MethodName)) (z := (⟨"com/example/typewire/typewire/packet/BitInput", "readBits", "(ILjava/lang/String;)J"⟩ : MethodName)) hown (mvT hZ (hw _ (List.mem_of_getElem? (i := 43) rfl))) (mvT hZ (hw _ (List.mem_of_getElem? (i := 44) rfl))) (notFace_of_selects (args := #[]) (mvT hZ (hw _ (List.mem_of_getElem? (i := 46) rfl)))) (mvT hZ (hw _ (List.mem_of_getElem? (i := 46) rfl))) (mvT hZ (hw _ (List.mem_of_getElem? (i := 45) rfl))) (by decide) (backOf (W := 0) (rm7s3 l Z a0 hw [] v10 v11 v9 v5 kc_v9 u1 u2 u3 u4 h0 n0 Z0 E_v10 g_v10 F_v10_bytes F_v10_position A_v9 g_v9 (Ne.symm ne_v9_v10) (own_zk hsk (by decide)) (own_c9 hn hsk (by decide))) hZ (hw _ (List.mem_of_getElem? (i := 47) rfl)) (hw _ (List.mem_of_getElem? (i := 4) rfl)) (by decide) (by decide)) q288a q288c (g := (mkF m 171 #[.val (.int v1), .val (.int v2), .val (.int v3), .val (.long v4), .second, .val (.int v5), .val (.int (3 : Int32)), .val (.int v6), .val (.int v7), .val (.long v8), .second, .val (.ref v9), .val (.ref v10), .unset, .unset] [(.ref v11), (.int (24 : Int32)), (.ref v10)])) rfl (by rw [hml]; rfl) (Steps.refl _) (argsL := [(.int (24 : Int32)), (.ref v11)]) (rest := []) (lenOf pd_6 rfl) rfl (by show 2 * 0 + _ ≤ _; exact Nat.le_of_eq rfl) (hb hby at_171) (fun _ _ => ⟨rfl, e0, (by decide : 4 + 0 ≤ _), (by decide : 26 + 0 ≤ _)⟩)
  dsimp only [Pt.U, Pt.locs, Pt.cells, Pt.slots] at X288 l288 y288 z288 st288 hQ288
  subst l288 y288 z288
  obtain ⟨rfl, N288q, K288', E_v10_288, F_v10_bytes_288, F_v10_position_288, A_v9_288⟩ := hQ288
  have sz288 : n0 ≤ T288.heap.size := Nat.le_trans Z0 K288'.1
  have sk288 : k0 ≤ T288.heap.size := Nat.le_trans hk0 K288'.1
  have N288 := Fr.app N0 N288q
  refine own_st ?_ (fun t k => st288.trans k)
  show own_Fin _ _ _ _ T288 (mkF m 174 #[.val (.int v1), .val (.int v2), .val (.int v3), .val (.long v4), .second, .val (.int v5), .val (.int (3 : Int32)), .val (.int v6), .val (.int v7), .val (.long v8), .second, .val (.ref v9), .val (.ref v10), .unset, .unset] [(.long (own_f7s3 v5 u1 u2 u3 u4))])
  refine own_st ?_ (fun t k => own_pop2 X288 hx (hb hby at_174) k)
  show own_Fin _ _ _ _ T288 (mkF m 175 #[.val (.int v1), .val (.int v2), .val (.int v3), .val (.long v4), .second, .val (.int v5), .val (.int (3 : Int32)), .val (.int v6), .val (.int v7), .val (.long v8), .second, .val (.ref v9), .val (.ref v10), .unset, .unset] [])
  refine own_aload X288 hx (hb hby at_175) (pc' := 177) rfl rfl rfl ?_
  refine own_iload X288 hx (hb hby at_177) (pc' := 179) rfl rfl ?_
  refine own_lload X288 hx (hb hby at_179) (pc' := 181) rfl rfl ?_
  obtain ⟨cq289, kq289, q289a, q289b, q289c⟩ := isOf hZ rfl E_v10_288
  obtain ⟨_, _, ⟨T289, L289, k289, n289⟩, -, X289, ⟨Lc289, hQ289, l289, y289, z289⟩, st289⟩ := X288.virtualBack hx (y := (⟨"com/example/typewire/typewire/packet/BitInput", "bytesBefore", "(IJ)J"⟩ : MethodName)) (z := (⟨"com/example/typewire/typewire/packet/BitInput", "bytesBefore", "(IJ)J"⟩ : MethodName)) hown (mvT hZ (hw _ (List.mem_of_getElem? (i := 13) rfl))) (mvT hZ (hw _ (List.mem_of_getElem? (i := 14) rfl))) (notFace_of_selects (args := #[]) (mvT hZ (hw _ (List.mem_of_getElem? (i := 16) rfl)))) (mvT hZ (hw _ (List.mem_of_getElem? (i := 16) rfl))) (mvT hZ (hw _ (List.mem_of_getElem? (i := 15) rfl))) (by decide) (backOf (W := 0) (rm3s3 l Z a0 hw [] v10 v7 v8 v9 v5 kc_v9 u1 u2 u3 u4 T288.heap n0 sz288 E_v10_288 F_v10_bytes_288 F_v10_position_288 A_v9_288 hn) hZ (hw _ (List.mem_of_getElem? (i := 17) rfl)) (hw _ (List.mem_of_getElem? (i := 4) rfl)) (by decide) (by decide)) q289a q289c (g := (mkF m 181 #[.val (.int v1), .val (.int v2), .val (.int v3), .val (.long v4), .second, .val (.int v5), .val (.int (3 : Int32)), .val (.int v6), .val (.int v7), .val (.long v8), .second, .val (.ref v9), .val (.ref v10), .unset, .unset] [(.long v8), (.int v7), (.ref v10)])) rfl (by rw [hml]; rfl) (Steps.refl _) (argsL := [(.int v7), (.long v8)]) (rest := []) (lenOf pd_4 rfl) rfl (by show 2 * 0 + _ ≤ _; exact Nat.le_of_eq rfl) (hb hby at_181) (fun _ _ => ⟨rfl, rfl, (by decide : 4 + 0 ≤ _), (by decide : 26 + 0 ≤ _)⟩)
  dsimp only [Pt.U, Pt.locs, Pt.cells, Pt.slots] at X289 l289 y289 z289 st289 hQ289
  subst l289 y289 z289
  obtain ⟨rfl, N289q, e289'⟩ := hQ289
  have N289 := Fr.app N288 N289q
  refine own_st ?_ (fun t k => st289.trans k)
  show own_Fin _ _ _ _ T289 (mkF m 184 #[.val (.int v1), .val (.int v2), .val (.int v3), .val (.long v4), .second, .val (.int v5), .val (.int (3 : Int32)), .val (.int v6), .val (.int v7), .val (.long v8), .second, .val (.ref v9), .val (.ref v10), .unset, .unset] [(.long (own_f3s3 v7 v8 v5 u1 u2 u3 u4))])
  refine own_lstore X289 hx (hb hby at_184) (pc' := 186) rfl (Ls' := #[.val (.int v1), .val (.int v2), .val (.int v3), .val (.long v4), .second, .val (.int v5), .val (.int (3 : Int32)), .val (.int v6), .val (.int v7), .val (.long v8), .second, .val (.ref v9), .val (.ref v10), .val (.long (own_f3s3 v7 v8 v5 u1 u2 u3 u4)), .second]) rfl ?_
  refine own_lload X289 hx (hb hby at_186) (pc' := 188) rfl rfl ?_
  refine own_aload X289 hx (hb hby at_188) (pc' := 190) rfl rfl rfl ?_
  refine own_iload X289 hx (hb hby at_190) (pc' := 192) rfl rfl ?_
  refine own_iload X289 hx (hb hby at_192) (pc' := 194) rfl rfl ?_
  refine own_iload X289 hx (hb hby at_194) (pc' := 196) rfl rfl ?_
  refine own_lload X289 hx (hb hby at_196) (pc' := 198) rfl rfl ?_
  obtain ⟨_, _, ⟨T290, L290, k290, n290⟩, -, X290, ⟨Lc290, hQ290, l290, y290, z290⟩, st290⟩ := Jvm.LawKit.callS X289 hx (y := (⟨"com/example/typewire/typewire/packet/BitInputBytesBeforePinLaw", "expected", "([BIIIJ)J"⟩ : MethodName)) hown (mvT hZ (hw _ (List.mem_of_getElem? (i := 22) rfl))) (mvT hZ (hw _ (List.mem_of_getElem? (i := 23) rfl))) (mvT hZ (hw _ (List.mem_of_getElem? (i := 24) rfl))) (mvT hZ (hw _ (List.mem_of_getElem? (i := 25) rfl))) (by decide) (backOf (W := 2) (rm4 l Z a0 hw [] v9 v5 (3 : Int32) v7 v8 kc_v9 u1 u2 u3 u4 T288.heap n0 sz288 A_v9_288) hZ (hw _ (List.mem_of_getElem? (i := 25) rfl)) (hw _ (List.mem_of_getElem? (i := 24) rfl)) (by decide) (by decide)) (g := (mkF m 198 #[.val (.int v1), .val (.int v2), .val (.int v3), .val (.long v4), .second, .val (.int v5), .val (.int (3 : Int32)), .val (.int v6), .val (.int v7), .val (.long v8), .second, .val (.ref v9), .val (.ref v10), .val (.long (own_f3s3 v7 v8 v5 u1 u2 u3 u4)), .second] [(.long v8), (.int v7), (.int (3 : Int32)), (.int v5), (.ref v9), (.long (own_f3s3 v7 v8 v5 u1 u2 u3 u4))])) rfl (by rw [hml]; rfl) (argsL := [(.ref v9), (.int v5), (.int (3 : Int32)), (.int v7), (.long v8)]) (rest := [(.long (own_f3s3 v7 v8 v5 u1 u2 u3 u4))]) (lenOf pd_5 rfl) rfl (by show 2 * 0 + _ ≤ _; exact Nat.le_of_eq rfl) (hb hby at_198) (fun _ _ => ⟨rfl, e289', (by decide : 4 + 0 ≤ _), (by decide : 26 + 0 ≤ _)⟩)
  dsimp only [Pt.U, Pt.locs, Pt.cells, Pt.slots] at X290 l290 y290 z290 st290 hQ290
  subst l290 y290 z290
  obtain ⟨rfl, N290q, e290'⟩ := hQ290
  have N290 := Fr.app N289 N290q
  refine own_st ?_ st290
  show own_Fin _ _ _ _ T290 (mkF m 201 #[.val (.int v1), .val (.int v2), .val (.int v3), .val (.long v4), .second, .val (.int v5), .val (.int (3 : Int32)), .val (.int v6), .val (.int v7), .val (.long v8), .second, .val (.ref v9), .val (.ref v10), .val (.long (own_f3s3 v7 v8 v5 u1 u2 u3 u4)), .second] [(.long (own_f4 v5 (3 : Int32) v7 v8 u1 u2 u3 u4)), (.long (own_f3s3 v7 v8 v5 u1 u2 u3 u4))])
  refine own_lcmp X290 hx (hb hby at_201) (pc' := 202) rfl ?_
  by_cases hc291 : (own_f3s3 v7 v8 v5 u1 u2 u3 u4) = (own_f4 v5 (3 : Int32) v7 v8 u1 u2 u3 u4)
  · refine own_ifNo X290 hx (hb hby at_202) (pc' := 205) rfl ((if0 _ _).trans (teq (own_lc_eq.mpr hc291)).2) ?_
    refine own_aload X290 hx (hb hby at_205) (pc' := 207) rfl rfl rfl ?_
    obtain ⟨cq292, kq292, q292a, q292b, q292c⟩ := isOf hZ e290' E_v10_288
    obtain ⟨_, _, ⟨T292, L292, k292, n292⟩, -, X292, ⟨Lc292, hQ292, l292, y292, z292⟩, st292⟩ := X290.virtualBack hx (y := (⟨"com/example/typewire/typewire/packet/BitInput", "position", "()J"⟩ : MethodName)) (z := (⟨"com/example/typewire/typewire/packet/BitInput", "position", "()J"⟩ : MethodName)) hown (mvT hZ (hw _ (List.mem_of_getElem? (i := 30) rfl))) (mvT hZ (hw _ (List.mem_of_getElem? (i := 31) rfl))) (notFace_of_selects (args := #[]) (mvT hZ (hw _ (List.mem_of_getElem? (i := 33) rfl)))) (mvT hZ (hw _ (List.mem_of_getElem? (i := 33) rfl))) (mvT hZ (hw _ (List.mem_of_getElem? (i := 32) rfl))) (by decide) (backOf (W := 0) (rm6 l Z a0 hw [] v10 v9 (24 : Int64) T288.heap n0 sz288 E_v10_288 F_v10_bytes_288 F_v10_position_288) hZ (hw _ (List.mem_of_getElem? (i := 34) rfl)) (hw _ (List.mem_of_getElem? (i := 4) rfl)) (by decide) (by decide)) q292a q292c (g := (mkF m 207 #[.val (.int v1), .val (.int v2), .val (.int v3), .val (.long v4), .second, .val (.int v5), .val (.int (3 : Int32)), .val (.int v6), .val (.int v7), .val (.long v8), .second, .val (.ref v9), .val (.ref v10), .val (.long (own_f3s3 v7 v8 v5 u1 u2 u3 u4)), .second] [(.ref v10)])) rfl (by rw [hml]; rfl) (Steps.refl _) (argsL := []) (rest := []) (lenOf pd_0 rfl) rfl (by show 2 * 0 + _ ≤ _; exact Nat.le_of_eq rfl) (hb hby at_207) (fun _ _ => ⟨rfl, e290', (by decide : 4 + 0 ≤ _), (by decide : 26 + 0 ≤ _)⟩)
    dsimp only [Pt.U, Pt.locs, Pt.cells, Pt.slots] at X292 l292 y292 z292 st292 hQ292
    subst l292 y292 z292
    obtain ⟨rfl, N292q, e292'⟩ := hQ292
    have N292 := Fr.app N290 N292q
    refine own_st ?_ (fun t k => st292.trans k)
    show own_Fin _ _ _ _ T292 (mkF m 210 #[.val (.int v1), .val (.int v2), .val (.int v3), .val (.long v4), .second, .val (.int v5), .val (.int (3 : Int32)), .val (.int v6), .val (.int v7), .val (.long v8), .second, .val (.ref v9), .val (.ref v10), .val (.long (own_f3s3 v7 v8 v5 u1 u2 u3 u4)), .second] [(.long (24 : Int64))])
    refine own_ldc2Long X292 hx hZ hown (hw _ (List.mem_of_getElem? (i := 35) rfl)) (hb hby at_210) (pc' := 213) rfl ?_
    refine own_iload X292 hx (hb hby at_213) (pc' := 215) rfl rfl ?_
    refine own_i2l X292 hx (hb hby at_215) (pc' := 216) rfl ?_
    show own_Fin _ _ _ _ T292 (mkF m 216 #[.val (.int v1), .val (.int v2), .val (.int v3), .val (.long v4), .second, .val (.int v5), .val (.int (3 : Int32)), .val (.int v6), .val (.int v7), .val (.long v8), .second, .val (.ref v9), .val (.ref v10), .val (.long (own_f3s3 v7 v8 v5 u1 u2 u3 u4)), .second] [(.long (3 : Int64)), (.long (8 : Int64)), (.long (24 : Int64))])
    refine own_lmul X292 hx (hb hby at_216) (pc' := 217) rfl ?_
    show own_Fin _ _ _ _ T292 (mkF m 217 #[.val (.int v1), .val (.int v2), .val (.int v3), .val (.long v4), .second, .val (.int v5), .val (.int (3 : Int32)), .val (.int v6), .val (.int v7), .val (.long v8), .second, .val (.ref v9), .val (.ref v10), .val (.long (own_f3s3 v7 v8 v5 u1 u2 u3 u4)), .second] [(.long (24 : Int64)), (.long (24 : Int64))])
    refine own_lcmp X292 hx (hb hby at_217) (pc' := 218) rfl ?_
    refine own_ifNo X292 hx (hb hby at_218) (pc' := 221) rfl ((if0 _ _).trans (teq (own_lc_eq.mpr (by decide : (24 : Int64) = (24 : Int64)))).2) ?_
    refine own_iconst X292 hx (hb hby at_221) (pc' := 222) rfl (v := (1 : Int32)) rfl ?_
    refine own_goto X292 hx (hb hby at_222) (pc' := 226) (by decide) (by decide) ?_
    refine own_retNW X292 hx hS (by rw [e292']; exact sk288) hret (by simp) hlk (hb hby at_226) (by decide) (by decide) ?_
    exact ⟨(congrArg some (congrArg Value.int (show _ = (own_f0_171_3 v1 v2 v3 v4 v5 v6 v7 v8 u1 u2 u3 u4) from by rw [own_f0_171_3, if_pos hc291]; rfl))), N292⟩
  · refine own_ifYes X290 hx (hb hby at_202) ((if0 _ _).trans (feq (mt own_lc_eq.mp hc291)).2) (pc' := 225) (by decide) (by decide) ?_
    refine own_iconst X290 hx (hb hby at_225) (pc' := 226) rfl (v := (0 : Int32)) rfl ?_
    refine own_retNW X290 hx hS (by rw [e290']; exact sk288) hret (by simp) hlk (hb hby at_226) (by decide) (by decide) ?_
    exact ⟨(congrArg some (congrArg Value.int (show _ = (own_f0_171_3 v1 v2 v3 v4 v5 v6 v7 v8 u1 u2 u3 u4) from by rw [own_f0_171_3, if_neg hc291]; rfl))), N290⟩
set_option maxRecDepth 65536 in
set_option maxHeartbeats 40000000 in
theorem sg0_171_4 {p : Program} (l : Launch) {e : Env} {s0 : State} {vm0 : Vm} {k0 : Nat} {m : MethodId} {args : Array Value} {below : List Frame} {meth : Method} {c : Code} {Z : State} {a0 : Array Value} (hw : ∀ d ∈ tables_1, d.before a0 Z = true) (hx : p.tables.exec = Jvm.exec) (hZ : Z.Warmed39 (s0.setVm vm0).vm) (hby : c.code = code) (hml : c.maxLocals = 15) (hown : (s0.setVm vm0).vm.findClass "com/example/typewire/typewire/packet/BitInputBytesBeforePinLaw" = some m.cls) (hnm : meth.name = "law") (hret : meth.sig.returnType = (some .boolean)) (hlk : meth.locks = false) (hS : s0.Since vm0 k0) (v1 : Int32) (v2 : Int32) (v3 : Int32) (v4 : Int64) (v5 : Int32) (v6 : Int32) (v7 : Int32) (v8 : Int64) (v9 : Addr) (v10 : Addr) (v11 : Addr) (kc_v9 : ClassId) (u1 : Int32) (u2 : Int32) (u3 : Int32) (u4 : Int32) {h0 : Heap} {n0 : Nat} (Z0 : n0 ≤ h0.size) (hk0 : k0 ≤ h0.size) {T0 : State} {L0 : List Loc} (X0 : Stand p l e room_1 (s0.setVm vm0) m args below meth c T0 L0 4 26) (N0 : Fr n0 L0) (e0 : T0.heap = h0) (A_v9 : Arv Z h0 v9 kc_v9 .byte v5 [(.int u1), (.int u2), (.int u3), (.int u4)] (.int (0 : Int32))) (E_v10 : Exa Z h0 v10 "com/example/typewire/typewire/packet/BitInput") (F_v10_bytes : Fld Z h0 v10 "com/example/typewire/typewire/packet/BitInput" "bytes" "[B" (.ref v9)) (F_v10_position : Fld Z h0 v10 "com/example/typewire/typewire/packet/BitInput" "position" "J" (.long (0 : Int64))) (g_v9 : n0 ≤ v9) (g_v10 : n0 ≤ v10) (ne_v9_v10 : v9 ≠ v10) (hn : 0 ≤ v5.toInt ∧ v5.toInt ≤ 4) (hsk : (4 : Int32).toInt ≤ v5.toInt) :
    own_Fin p.tables e below (own_EndW below s0 (own_L n0 (.int (own_f0_171_4 v1 v2 v3 v4 v5 v6 v7 v8 u1 u2 u3 u4))) 4 26) T0 (mkF m 171 #[.val (.int v1), .val (.int v2), .val (.int v3), .val (.long v4), .second, .val (.int v5), .val (.int (4 : Int32)), .val (.int v6), .val (.int v7), .val (.long v8), .second, .val (.ref v9), .val (.ref v10), .unset, .unset] [(.ref v11), (.int (32 : Int32)), (.ref v10)]) := by
  obtain ⟨cq293, kq293, q293a, q293b, q293c⟩ := isOf hZ e0 E_v10
  obtain ⟨_, _, ⟨T293, L293, k293, n293⟩, -, X293, ⟨Lc293, hQ293, l293, y293, z293⟩, st293⟩ := X0.virtualBack hx (y := (⟨"com/example/typewire/typewire/packet/BitInput", "readBits", "(ILjava/lang/String;)J"⟩ : MethodName)) (z := (⟨"com/example/typewire/typewire/packet/BitInput", "readBits", "(ILjava/lang/String;)J"⟩ : MethodName)) hown (mvT hZ (hw _ (List.mem_of_getElem? (i := 43) rfl))) (mvT hZ (hw _ (List.mem_of_getElem? (i := 44) rfl))) (notFace_of_selects (args := #[]) (mvT hZ (hw _ (List.mem_of_getElem? (i := 46) rfl)))) (mvT hZ (hw _ (List.mem_of_getElem? (i := 46) rfl))) (mvT hZ (hw _ (List.mem_of_getElem? (i := 45) rfl))) (by decide) (backOf (W := 0) (rm7s4 l Z a0 hw [] v10 v11 v9 v5 kc_v9 u1 u2 u3 u4 h0 n0 Z0 E_v10 g_v10 F_v10_bytes F_v10_position A_v9 g_v9 (Ne.symm ne_v9_v10) (own_zk hsk (by decide)) (own_c9 hn hsk (by decide))) hZ (hw _ (List.mem_of_getElem? (i := 47) rfl)) (hw _ (List.mem_of_getElem? (i := 4) rfl)) (by decide) (by decide)) q293a q293c (g := (mkF m 171 #[.val (.int v1), .val (.int v2), .val (.int v3), .val (.long v4), .second, .val (.int v5), .val (.int (4 : Int32)), .val (.int v6), .val (.int v7), .val (.long v8), .second, .val (.ref v9), .val (.ref v10), .unset, .unset] [(.ref v11), (.int (32 : Int32)), (.ref v10)])) rfl (by rw [hml]; rfl) (Steps.refl _) (argsL := [(.int (32 : Int32)), (.ref v11)]) (rest := []) (lenOf pd_6 rfl) rfl (by show 2 * 0 + _ ≤ _; exact Nat.le_of_eq rfl) (hb hby at_171) (fun _ _ => ⟨rfl, e0, (by decide : 4 + 0 ≤ _), (by decide : 26 + 0 ≤ _)⟩)
  dsimp only [Pt.U, Pt.locs, Pt.cells, Pt.slots] at X293 l293 y293 z293 st293 hQ293
  subst l293 y293 z293
  obtain ⟨rfl, N293q, K293', E_v10_293, F_v10_bytes_293, F_v10_position_293, A_v9_293⟩ := hQ293
  have sz293 : n0 ≤ T293.heap.size := Nat.le_trans Z0 K293'.1
  have sk293 : k0 ≤ T293.heap.size := Nat.le_trans hk0 K293'.1
  have N293 := Fr.app N0 N293q
  refine own_st ?_ (fun t k => st293.trans k)
  show own_Fin _ _ _ _ T293 (mkF m 174 #[.val (.int v1), .val (.int v2), .val (.int v3), .val (.long v4), .second, .val (.int v5), .val (.int (4 : Int32)), .val (.int v6), .val (.int v7), .val (.long v8), .second, .val (.ref v9), .val (.ref v10), .unset, .unset] [(.long (own_f7s4 v5 u1 u2 u3 u4))])
  refine own_st ?_ (fun t k => own_pop2 X293 hx (hb hby at_174) k)
  show own_Fin _ _ _ _ T293 (mkF m 175 #[.val (.int v1), .val (.int v2), .val (.int v3), .val (.long v4), .second, .val (.int v5), .val (.int (4 : Int32)), .val (.int v6), .val (.int v7), .val (.long v8), .second, .val (.ref v9), .val (.ref v10), .unset, .unset] [])
  refine own_aload X293 hx (hb hby at_175) (pc' := 177) rfl rfl rfl ?_
  refine own_iload X293 hx (hb hby at_177) (pc' := 179) rfl rfl ?_
  refine own_lload X293 hx (hb hby at_179) (pc' := 181) rfl rfl ?_
  obtain ⟨cq294, kq294, q294a, q294b, q294c⟩ := isOf hZ rfl E_v10_293
  obtain ⟨_, _, ⟨T294, L294, k294, n294⟩, -, X294, ⟨Lc294, hQ294, l294, y294, z294⟩, st294⟩ := X293.virtualBack hx (y := (⟨"com/example/typewire/typewire/packet/BitInput", "bytesBefore", "(IJ)J"⟩ : MethodName)) (z := (⟨"com/example/typewire/typewire/packet/BitInput", "bytesBefore", "(IJ)J"⟩ : MethodName)) hown (mvT hZ (hw _ (List.mem_of_getElem? (i := 13) rfl))) (mvT hZ (hw _ (List.mem_of_getElem? (i := 14) rfl))) (notFace_of_selects (args := #[]) (mvT hZ (hw _ (List.mem_of_getElem? (i := 16) rfl)))) (mvT hZ (hw _ (List.mem_of_getElem? (i := 16) rfl))) (mvT hZ (hw _ (List.mem_of_getElem? (i := 15) rfl))) (by decide) (backOf (W := 0) (rm3s4 l Z a0 hw [] v10 v7 v8 v9 v5 kc_v9 u1 u2 u3 u4 T293.heap n0 sz293 E_v10_293 F_v10_bytes_293 F_v10_position_293 A_v9_293 hn) hZ (hw _ (List.mem_of_getElem? (i := 17) rfl)) (hw _ (List.mem_of_getElem? (i := 4) rfl)) (by decide) (by decide)) q294a q294c (g := (mkF m 181 #[.val (.int v1), .val (.int v2), .val (.int v3), .val (.long v4), .second, .val (.int v5), .val (.int (4 : Int32)), .val (.int v6), .val (.int v7), .val (.long v8), .second, .val (.ref v9), .val (.ref v10), .unset, .unset] [(.long v8), (.int v7), (.ref v10)])) rfl (by rw [hml]; rfl) (Steps.refl _) (argsL := [(.int v7), (.long v8)]) (rest := []) (lenOf pd_4 rfl) rfl (by show 2 * 0 + _ ≤ _; exact Nat.le_of_eq rfl) (hb hby at_181) (fun _ _ => ⟨rfl, rfl, (by decide : 4 + 0 ≤ _), (by decide : 26 + 0 ≤ _)⟩)
  dsimp only [Pt.U, Pt.locs, Pt.cells, Pt.slots] at X294 l294 y294 z294 st294 hQ294
  subst l294 y294 z294
  obtain ⟨rfl, N294q, e294'⟩ := hQ294
  have N294 := Fr.app N293 N294q
  refine own_st ?_ (fun t k => st294.trans k)
  show own_Fin _ _ _ _ T294 (mkF m 184 #[.val (.int v1), .val (.int v2), .val (.int v3), .val (.long v4), .second, .val (.int v5), .val (.int (4 : Int32)), .val (.int v6), .val (.int v7), .val (.long v8), .second, .val (.ref v9), .val (.ref v10), .unset, .unset] [(.long (own_f3s4 v7 v8 v5 u1 u2 u3 u4))])
  refine own_lstore X294 hx (hb hby at_184) (pc' := 186) rfl (Ls' := #[.val (.int v1), .val (.int v2), .val (.int v3), .val (.long v4), .second, .val (.int v5), .val (.int (4 : Int32)), .val (.int v6), .val (.int v7), .val (.long v8), .second, .val (.ref v9), .val (.ref v10), .val (.long (own_f3s4 v7 v8 v5 u1 u2 u3 u4)), .second]) rfl ?_
  refine own_lload X294 hx (hb hby at_186) (pc' := 188) rfl rfl ?_
  refine own_aload X294 hx (hb hby at_188) (pc' := 190) rfl rfl rfl ?_
  refine own_iload X294 hx (hb hby at_190) (pc' := 192) rfl rfl ?_
  refine own_iload X294 hx (hb hby at_192) (pc' := 194) rfl rfl ?_
  refine own_iload X294 hx (hb hby at_194) (pc' := 196) rfl rfl ?_
  refine own_lload X294 hx (hb hby at_196) (pc' := 198) rfl rfl ?_
  obtain ⟨_, _, ⟨T295, L295, k295, n295⟩, -, X295, ⟨Lc295, hQ295, l295, y295, z295⟩, st295⟩ := Jvm.LawKit.callS X294 hx (y := (⟨"com/example/typewire/typewire/packet/BitInputBytesBeforePinLaw", "expected", "([BIIIJ)J"⟩ : MethodName)) hown (mvT hZ (hw _ (List.mem_of_getElem? (i := 22) rfl))) (mvT hZ (hw _ (List.mem_of_getElem? (i := 23) rfl))) (mvT hZ (hw _ (List.mem_of_getElem? (i := 24) rfl))) (mvT hZ (hw _ (List.mem_of_getElem? (i := 25) rfl))) (by decide) (backOf (W := 2) (rm4 l Z a0 hw [] v9 v5 (4 : Int32) v7 v8 kc_v9 u1 u2 u3 u4 T293.heap n0 sz293 A_v9_293) hZ (hw _ (List.mem_of_getElem? (i := 25) rfl)) (hw _ (List.mem_of_getElem? (i := 24) rfl)) (by decide) (by decide)) (g := (mkF m 198 #[.val (.int v1), .val (.int v2), .val (.int v3), .val (.long v4), .second, .val (.int v5), .val (.int (4 : Int32)), .val (.int v6), .val (.int v7), .val (.long v8), .second, .val (.ref v9), .val (.ref v10), .val (.long (own_f3s4 v7 v8 v5 u1 u2 u3 u4)), .second] [(.long v8), (.int v7), (.int (4 : Int32)), (.int v5), (.ref v9), (.long (own_f3s4 v7 v8 v5 u1 u2 u3 u4))])) rfl (by rw [hml]; rfl) (argsL := [(.ref v9), (.int v5), (.int (4 : Int32)), (.int v7), (.long v8)]) (rest := [(.long (own_f3s4 v7 v8 v5 u1 u2 u3 u4))]) (lenOf pd_5 rfl) rfl (by show 2 * 0 + _ ≤ _; exact Nat.le_of_eq rfl) (hb hby at_198) (fun _ _ => ⟨rfl, e294', (by decide : 4 + 0 ≤ _), (by decide : 26 + 0 ≤ _)⟩)
  dsimp only [Pt.U, Pt.locs, Pt.cells, Pt.slots] at X295 l295 y295 z295 st295 hQ295
  subst l295 y295 z295
  obtain ⟨rfl, N295q, e295'⟩ := hQ295
  have N295 := Fr.app N294 N295q
  refine own_st ?_ st295
  show own_Fin _ _ _ _ T295 (mkF m 201 #[.val (.int v1), .val (.int v2), .val (.int v3), .val (.long v4), .second, .val (.int v5), .val (.int (4 : Int32)), .val (.int v6), .val (.int v7), .val (.long v8), .second, .val (.ref v9), .val (.ref v10), .val (.long (own_f3s4 v7 v8 v5 u1 u2 u3 u4)), .second] [(.long (own_f4 v5 (4 : Int32) v7 v8 u1 u2 u3 u4)), (.long (own_f3s4 v7 v8 v5 u1 u2 u3 u4))])
  refine own_lcmp X295 hx (hb hby at_201) (pc' := 202) rfl ?_
  by_cases hc296 : (own_f3s4 v7 v8 v5 u1 u2 u3 u4) = (own_f4 v5 (4 : Int32) v7 v8 u1 u2 u3 u4)
  · refine own_ifNo X295 hx (hb hby at_202) (pc' := 205) rfl ((if0 _ _).trans (teq (own_lc_eq.mpr hc296)).2) ?_
    refine own_aload X295 hx (hb hby at_205) (pc' := 207) rfl rfl rfl ?_
    obtain ⟨cq297, kq297, q297a, q297b, q297c⟩ := isOf hZ e295' E_v10_293
    obtain ⟨_, _, ⟨T297, L297, k297, n297⟩, -, X297, ⟨Lc297, hQ297, l297, y297, z297⟩, st297⟩ := X295.virtualBack hx (y := (⟨"com/example/typewire/typewire/packet/BitInput", "position", "()J"⟩ : MethodName)) (z := (⟨"com/example/typewire/typewire/packet/BitInput", "position", "()J"⟩ : MethodName)) hown (mvT hZ (hw _ (List.mem_of_getElem? (i := 30) rfl))) (mvT hZ (hw _ (List.mem_of_getElem? (i := 31) rfl))) (notFace_of_selects (args := #[]) (mvT hZ (hw _ (List.mem_of_getElem? (i := 33) rfl)))) (mvT hZ (hw _ (List.mem_of_getElem? (i := 33) rfl))) (mvT hZ (hw _ (List.mem_of_getElem? (i := 32) rfl))) (by decide) (backOf (W := 0) (rm6 l Z a0 hw [] v10 v9 (32 : Int64) T293.heap n0 sz293 E_v10_293 F_v10_bytes_293 F_v10_position_293) hZ (hw _ (List.mem_of_getElem? (i := 34) rfl)) (hw _ (List.mem_of_getElem? (i := 4) rfl)) (by decide) (by decide)) q297a q297c (g := (mkF m 207 #[.val (.int v1), .val (.int v2), .val (.int v3), .val (.long v4), .second, .val (.int v5), .val (.int (4 : Int32)), .val (.int v6), .val (.int v7), .val (.long v8), .second, .val (.ref v9), .val (.ref v10), .val (.long (own_f3s4 v7 v8 v5 u1 u2 u3 u4)), .second] [(.ref v10)])) rfl (by rw [hml]; rfl) (Steps.refl _) (argsL := []) (rest := []) (lenOf pd_0 rfl) rfl (by show 2 * 0 + _ ≤ _; exact Nat.le_of_eq rfl) (hb hby at_207) (fun _ _ => ⟨rfl, e295', (by decide : 4 + 0 ≤ _), (by decide : 26 + 0 ≤ _)⟩)
    dsimp only [Pt.U, Pt.locs, Pt.cells, Pt.slots] at X297 l297 y297 z297 st297 hQ297
    subst l297 y297 z297
    obtain ⟨rfl, N297q, e297'⟩ := hQ297
    have N297 := Fr.app N295 N297q
    refine own_st ?_ (fun t k => st297.trans k)
    show own_Fin _ _ _ _ T297 (mkF m 210 #[.val (.int v1), .val (.int v2), .val (.int v3), .val (.long v4), .second, .val (.int v5), .val (.int (4 : Int32)), .val (.int v6), .val (.int v7), .val (.long v8), .second, .val (.ref v9), .val (.ref v10), .val (.long (own_f3s4 v7 v8 v5 u1 u2 u3 u4)), .second] [(.long (32 : Int64))])
    refine own_ldc2Long X297 hx hZ hown (hw _ (List.mem_of_getElem? (i := 35) rfl)) (hb hby at_210) (pc' := 213) rfl ?_
    refine own_iload X297 hx (hb hby at_213) (pc' := 215) rfl rfl ?_
    refine own_i2l X297 hx (hb hby at_215) (pc' := 216) rfl ?_
    show own_Fin _ _ _ _ T297 (mkF m 216 #[.val (.int v1), .val (.int v2), .val (.int v3), .val (.long v4), .second, .val (.int v5), .val (.int (4 : Int32)), .val (.int v6), .val (.int v7), .val (.long v8), .second, .val (.ref v9), .val (.ref v10), .val (.long (own_f3s4 v7 v8 v5 u1 u2 u3 u4)), .second] [(.long (4 : Int64)), (.long (8 : Int64)), (.long (32 : Int64))])
    refine own_lmul X297 hx (hb hby at_216) (pc' := 217) rfl ?_
    show own_Fin _ _ _ _ T297 (mkF m 217 #[.val (.int v1), .val (.int v2), .val (.int v3), .val (.long v4), .second, .val (.int v5), .val (.int (4 : Int32)), .val (.int v6), .val (.int v7), .val (.long v8), .second, .val (.ref v9), .val (.ref v10), .val (.long (own_f3s4 v7 v8 v5 u1 u2 u3 u4)), .second] [(.long (32 : Int64)), (.long (32 : Int64))])
    refine own_lcmp X297 hx (hb hby at_217) (pc' := 218) rfl ?_
    refine own_ifNo X297 hx (hb hby at_218) (pc' := 221) rfl ((if0 _ _).trans (teq (own_lc_eq.mpr (by decide : (32 : Int64) = (32 : Int64)))).2) ?_
    refine own_iconst X297 hx (hb hby at_221) (pc' := 222) rfl (v := (1 : Int32)) rfl ?_
    refine own_goto X297 hx (hb hby at_222) (pc' := 226) (by decide) (by decide) ?_
    refine own_retNW X297 hx hS (by rw [e297']; exact sk293) hret (by simp) hlk (hb hby at_226) (by decide) (by decide) ?_
    exact ⟨(congrArg some (congrArg Value.int (show _ = (own_f0_171_4 v1 v2 v3 v4 v5 v6 v7 v8 u1 u2 u3 u4) from by rw [own_f0_171_4, if_pos hc296]; rfl))), N297⟩
  · refine own_ifYes X295 hx (hb hby at_202) ((if0 _ _).trans (feq (mt own_lc_eq.mp hc296)).2) (pc' := 225) (by decide) (by decide) ?_
    refine own_iconst X295 hx (hb hby at_225) (pc' := 226) rfl (v := (0 : Int32)) rfl ?_
    refine own_retNW X295 hx hS (by rw [e295']; exact sk293) hret (by simp) hlk (hb hby at_226) (by decide) (by decide) ?_
    exact ⟨(congrArg some (congrArg Value.int (show _ = (own_f0_171_4 v1 v2 v3 v4 v5 v6 v7 v8 u1 u2 u3 u4) from by rw [own_f0_171_4, if_neg hc296]; rfl))), N295⟩
set_option maxRecDepth 65536 in
set_option maxHeartbeats 40000000 in
theorem sg0_146 {p : Program} (l : Launch) {e : Env} {s0 : State} {vm0 : Vm} {k0 : Nat} {m : MethodId} {args : Array Value} {below : List Frame} {meth : Method} {c : Code} {Z : State} {a0 : Array Value} (hw : ∀ d ∈ tables_1, d.before a0 Z = true) (hx : p.tables.exec = Jvm.exec) (hZ : Z.Warmed39 (s0.setVm vm0).vm) (hby : c.code = code) (hml : c.maxLocals = 15) (hown : (s0.setVm vm0).vm.findClass "com/example/typewire/typewire/packet/BitInputBytesBeforePinLaw" = some m.cls) (hnm : meth.name = "law") (hret : meth.sig.returnType = (some .boolean)) (hlk : meth.locks = false) (hS : s0.Since vm0 k0) (v1 : Int32) (v2 : Int32) (v3 : Int32) (v4 : Int64) (v5 : Int32) (v6 : Int32) (v7 : Int32) (v8 : Int32) (v9 : Int64) (v10 : Addr) (kc_v10 : ClassId) (u1 : Int32) (u2 : Int32) (u3 : Int32) (u4 : Int32) {h0 : Heap} {n0 : Nat} (Z0 : n0 ≤ h0.size) (hk0 : k0 ≤ h0.size) {T0 : State} {L0 : List Loc} (X0 : Stand p l e room_1 (s0.setVm vm0) m args below meth c T0 L0 1 4) (N0 : Fr n0 L0) (e0 : T0.heap = h0) (A_v10 : Arv Z h0 v10 kc_v10 .byte v5 [(.int u1), (.int u2), (.int u3), (.int u4)] (.int (0 : Int32))) (g_v10 : n0 ≤ v10) (hn : 0 ≤ v5.toInt ∧ v5.toInt ≤ 4) (hs' : 0 ≤ v6.toInt ∧ v6.toInt ≤ v5.toInt) :
    own_Fin p.tables e below (own_EndW below s0 (own_L n0 (.int (own_f0_146 v1 v2 v3 v4 v5 v6 v7 v8 v9 u1 u2 u3 u4))) 4 26) T0 (mkF m 146 #[.val (.int v1), .val (.int v2), .val (.int v3), .val (.long v4), .second, .val (.int v5), .val (.int v6), .val (.int v7), .val (.int v8), .val (.long v9), .second, .val (.ref v10), .unset, .unset, .unset] []) := by
  obtain ⟨T263, h263, X263, e263, E263, A263, D263, -, st263⟩ := newO X0 hx hZ hown (hw _ (List.mem_of_getElem? (i := 2) rfl)) (hw _ (List.mem_of_getElem? (i := 3) rfl)) (hw _ (List.mem_of_getElem? (i := 4) rfl)) e0 (g := (mkF m 146 #[.val (.int v1), .val (.int v2), .val (.int v3), .val (.long v4), .second, .val (.int v5), .val (.int v6), .val (.int v7), .val (.int v8), .val (.long v9), .second, .val (.ref v10), .unset, .unset, .unset] [])) rfl (hb hby at_146) (by decide) (by decide)
  obtain ⟨b263, g263⟩ : ∃ z, z = h0.size := ⟨_, rfl⟩
  rw [← g263] at A263 D263 st263
  have g_b263 : n0 ≤ b263 := Nat.le_trans Z0 (Nat.le_of_eq g263.symm)
  have ne_v10_b263 : v10 ≠ b263 := Nat.ne_of_lt (Nat.lt_of_lt_of_le A_v10.lt (Nat.le_of_eq g263.symm))
  have A_v10_263 : Arv Z h263 v10 kc_v10 .byte v5 [(.int u1), (.int u2), (.int u3), (.int u4)] (.int (0 : Int32)) := A_v10.ext E263
  have F_b263_bytes_263 : Fld Z h263 b263 "com/example/typewire/typewire/packet/BitInput" "bytes" "[B" .null := D263 (Or.inr (hw _ (List.mem_of_getElem? (i := 12) rfl))) (ty := (.array .byte)) (by decide)
  have F_b263_position_263 : Fld Z h263 b263 "com/example/typewire/typewire/packet/BitInput" "position" "J" (.long (0 : Int64)) := D263 (Or.inl (hw _ (List.mem_of_getElem? (i := 19) rfl))) (ty := .long) (by decide)
  have sz263 : n0 ≤ h263.size := Nat.le_trans Z0 E263.1
  have sk263 : k0 ≤ h263.size := Nat.le_trans hk0 E263.1
  refine own_st ?_ st263
  show own_Fin _ _ _ _ T263 (mkF m 149 #[.val (.int v1), .val (.int v2), .val (.int v3), .val (.long v4), .second, .val (.int v5), .val (.int v6), .val (.int v7), .val (.int v8), .val (.long v9), .second, .val (.ref v10), .unset, .unset, .unset] [(.ref b263)])
  refine own_dup X263 hx (hb hby at_149) (pc' := 150) rfl rfl ?_
  refine own_aload X263 hx (hb hby at_150) (pc' := 152) rfl rfl rfl ?_
  obtain ⟨_, _, ⟨T264, L264, k264, n264⟩, -, X264, ⟨Lc264, hQ264, l264, y264, z264⟩, st264⟩ := X263.specialBack hx (y := (⟨"com/example/typewire/typewire/packet/BitInput", "<init>", "([B)V"⟩ : MethodName)) rfl hown (mvT hZ (hw _ (List.mem_of_getElem? (i := 5) rfl))) (mvT hZ (hw _ (List.mem_of_getElem? (i := 6) rfl))) (mvT hZ (hw _ (List.mem_of_getElem? (i := 7) rfl))) (by decide) (backOf (W := 1) (rm1 l Z a0 hw [] b263 v10 h263 n0 sz263 A263 g_b263 F_b263_bytes_263 F_b263_position_263) hZ (hw _ (List.mem_of_getElem? (i := 7) rfl)) (hw _ (List.mem_of_getElem? (i := 4) rfl)) (by decide) (by decide)) (g := (mkF m 152 #[.val (.int v1), .val (.int v2), .val (.int v3), .val (.long v4), .second, .val (.int v5), .val (.int v6), .val (.int v7), .val (.int v8), .val (.long v9), .second, .val (.ref v10), .unset, .unset, .unset] [(.ref v10), (.ref b263), (.ref b263)])) rfl (by rw [hml]; rfl) (Steps.refl _) (a := b263) (argsL := [(.ref v10)]) (rest := [(.ref b263)]) (lenOf pd_3 rfl) rfl (by show 2 * 0 + _ ≤ _; exact Nat.le_of_eq rfl) (hb hby at_152) (fun _ _ => ⟨rfl, e263, (by decide : 2 + 0 ≤ _), (by decide : 6 + 0 ≤ _)⟩)
  dsimp only [Pt.U, Pt.locs, Pt.cells, Pt.slots] at X264 l264 y264 z264 st264 hQ264
  subst l264 y264 z264
  obtain ⟨rfl, N264q, K264', E_b263_264, F_b263_bytes_264, F_b263_position_264⟩ := hQ264
  have A_v10_264 : Arv Z T264.heap v10 kc_v10 .byte v5 [(.int u1), (.int u2), (.int u3), (.int u4)] (.int (0 : Int32)) := A_v10_263.keep K264' (ninS ne_v10_b263 nin0)
  have sz264 : n0 ≤ T264.heap.size := Nat.le_trans sz263 K264'.1
  have sk264 : k0 ≤ T264.heap.size := Nat.le_trans sk263 K264'.1
  have N264 := Fr.app N0 N264q
  refine own_st ?_ (fun t k => st264.trans k)
  show own_Fin _ _ _ _ T264 (mkF m 155 #[.val (.int v1), .val (.int v2), .val (.int v3), .val (.long v4), .second, .val (.int v5), .val (.int v6), .val (.int v7), .val (.int v8), .val (.long v9), .second, .val (.ref v10), .unset, .unset, .unset] [(.ref b263)])
  refine own_astore X264 hx (hb hby at_155) (pc' := 157) rfl (Ls' := #[.val (.int v1), .val (.int v2), .val (.int v3), .val (.long v4), .second, .val (.int v5), .val (.int v6), .val (.int v7), .val (.int v8), .val (.long v9), .second, .val (.ref v10), .val (.ref b263), .unset, .unset]) rfl rfl ?_
  by_cases hc265 : v6 = (0 : Int32)
  · refine own_fr (g' := (mkF m 157 #[.val (.int v1), .val (.int v2), .val (.int v3), .val (.long v4), .second, .val (.int v5), .val (.int (0 : Int32)), .val (.int v7), .val (.int v8), .val (.long v9), .second, .val (.ref v10), .val (.ref b263), .unset, .unset] [])) (by rw [hc265]) ?_
    refine own_iload X264 hx (hb hby at_157) (pc' := 159) rfl rfl ?_
    refine own_ifYes X264 hx (hb hby at_159) ((if0 _ _).trans (flt (by decide : ¬ ((0 : Int32) < (0 : Int32)))).2.2.2) (pc' := 175) (by decide) (by decide) ?_
    refine own_aload X264 hx (hb hby at_175) (pc' := 177) rfl rfl rfl ?_
    refine own_iload X264 hx (hb hby at_177) (pc' := 179) rfl rfl ?_
    refine own_lload X264 hx (hb hby at_179) (pc' := 181) rfl rfl ?_
    obtain ⟨cq266, kq266, q266a, q266b, q266c⟩ := isOf hZ rfl E_b263_264
    obtain ⟨_, _, ⟨T266, L266, k266, n266⟩, -, X266, ⟨Lc266, hQ266, l266, y266, z266⟩, st266⟩ := X264.virtualBack hx (y := (⟨"com/example/typewire/typewire/packet/BitInput", "bytesBefore", "(IJ)J"⟩ : MethodName)) (z := (⟨"com/example/typewire/typewire/packet/BitInput", "bytesBefore", "(IJ)J"⟩ : MethodName)) hown (mvT hZ (hw _ (List.mem_of_getElem? (i := 13) rfl))) (mvT hZ (hw _ (List.mem_of_getElem? (i := 14) rfl))) (notFace_of_selects (args := #[]) (mvT hZ (hw _ (List.mem_of_getElem? (i := 16) rfl)))) (mvT hZ (hw _ (List.mem_of_getElem? (i := 16) rfl))) (mvT hZ (hw _ (List.mem_of_getElem? (i := 15) rfl))) (by decide) (backOf (W := 0) (rm3s0 l Z a0 hw [] b263 v8 v9 v10 v5 kc_v10 u1 u2 u3 u4 T264.heap n0 sz264 E_b263_264 F_b263_bytes_264 F_b263_position_264 A_v10_264 hn) hZ (hw _ (List.mem_of_getElem? (i := 17) rfl)) (hw _ (List.mem_of_getElem? (i := 4) rfl)) (by decide) (by decide)) q266a q266c (g := (mkF m 181 #[.val (.int v1), .val (.int v2), .val (.int v3), .val (.long v4), .second, .val (.int v5), .val (.int (0 : Int32)), .val (.int v7), .val (.int v8), .val (.long v9), .second, .val (.ref v10), .val (.ref b263), .unset, .unset] [(.long v9), (.int v8), (.ref b263)])) rfl (by rw [hml]; rfl) (Steps.refl _) (argsL := [(.int v8), (.long v9)]) (rest := []) (lenOf pd_4 rfl) rfl (by show 2 * 0 + _ ≤ _; exact Nat.le_of_eq rfl) (hb hby at_181) (fun _ _ => ⟨rfl, rfl, (by decide : 2 + 0 ≤ _), (by decide : 6 + 0 ≤ _)⟩)
    dsimp only [Pt.U, Pt.locs, Pt.cells, Pt.slots] at X266 l266 y266 z266 st266 hQ266
    subst l266 y266 z266
    obtain ⟨rfl, N266q, e266'⟩ := hQ266
    have N266 := Fr.app N264 N266q
    refine own_st ?_ (fun t k => st266.trans k)
    show own_Fin _ _ _ _ T266 (mkF m 184 #[.val (.int v1), .val (.int v2), .val (.int v3), .val (.long v4), .second, .val (.int v5), .val (.int (0 : Int32)), .val (.int v7), .val (.int v8), .val (.long v9), .second, .val (.ref v10), .val (.ref b263), .unset, .unset] [(.long (own_f3s0 v8 v9 v5 u1 u2 u3 u4))])
    refine own_lstore X266 hx (hb hby at_184) (pc' := 186) rfl (Ls' := #[.val (.int v1), .val (.int v2), .val (.int v3), .val (.long v4), .second, .val (.int v5), .val (.int (0 : Int32)), .val (.int v7), .val (.int v8), .val (.long v9), .second, .val (.ref v10), .val (.ref b263), .val (.long (own_f3s0 v8 v9 v5 u1 u2 u3 u4)), .second]) rfl ?_
    refine own_lload X266 hx (hb hby at_186) (pc' := 188) rfl rfl ?_
    refine own_aload X266 hx (hb hby at_188) (pc' := 190) rfl rfl rfl ?_
    refine own_iload X266 hx (hb hby at_190) (pc' := 192) rfl rfl ?_
    refine own_iload X266 hx (hb hby at_192) (pc' := 194) rfl rfl ?_
    refine own_iload X266 hx (hb hby at_194) (pc' := 196) rfl rfl ?_
    refine own_lload X266 hx (hb hby at_196) (pc' := 198) rfl rfl ?_
    obtain ⟨_, _, ⟨T267, L267, k267, n267⟩, -, X267, ⟨Lc267, hQ267, l267, y267, z267⟩, st267⟩ := Jvm.LawKit.callS X266 hx (y := (⟨"com/example/typewire/typewire/packet/BitInputBytesBeforePinLaw", "expected", "([BIIIJ)J"⟩ : MethodName)) hown (mvT hZ (hw _ (List.mem_of_getElem? (i := 22) rfl))) (mvT hZ (hw _ (List.mem_of_getElem? (i := 23) rfl))) (mvT hZ (hw _ (List.mem_of_getElem? (i := 24) rfl))) (mvT hZ (hw _ (List.mem_of_getElem? (i := 25) rfl))) (by decide) (backOf (W := 2) (rm4 l Z a0 hw [] v10 v5 (0 : Int32) v8 v9 kc_v10 u1 u2 u3 u4 T264.heap n0 sz264 A_v10_264) hZ (hw _ (List.mem_of_getElem? (i := 25) rfl)) (hw _ (List.mem_of_getElem? (i := 24) rfl)) (by decide) (by decide)) (g := (mkF m 198 #[.val (.int v1), .val (.int v2), .val (.int v3), .val (.long v4), .second, .val (.int v5), .val (.int (0 : Int32)), .val (.int v7), .val (.int v8), .val (.long v9), .second, .val (.ref v10), .val (.ref b263), .val (.long (own_f3s0 v8 v9 v5 u1 u2 u3 u4)), .second] [(.long v9), (.int v8), (.int (0 : Int32)), (.int v5), (.ref v10), (.long (own_f3s0 v8 v9 v5 u1 u2 u3 u4))])) rfl (by rw [hml]; rfl) (argsL := [(.ref v10), (.int v5), (.int (0 : Int32)), (.int v8), (.long v9)]) (rest := [(.long (own_f3s0 v8 v9 v5 u1 u2 u3 u4))]) (lenOf pd_5 rfl) rfl (by show 2 * 0 + _ ≤ _; exact Nat.le_of_eq rfl) (hb hby at_198) (fun _ _ => ⟨rfl, e266', (by decide : 2 + 0 ≤ _), (by decide : 6 + 0 ≤ _)⟩)
    dsimp only [Pt.U, Pt.locs, Pt.cells, Pt.slots] at X267 l267 y267 z267 st267 hQ267
    subst l267 y267 z267
    obtain ⟨rfl, N267q, e267'⟩ := hQ267
    have N267 := Fr.app N266 N267q
    refine own_st ?_ st267
    show own_Fin _ _ _ _ T267 (mkF m 201 #[.val (.int v1), .val (.int v2), .val (.int v3), .val (.long v4), .second, .val (.int v5), .val (.int (0 : Int32)), .val (.int v7), .val (.int v8), .val (.long v9), .second, .val (.ref v10), .val (.ref b263), .val (.long (own_f3s0 v8 v9 v5 u1 u2 u3 u4)), .second] [(.long (own_f4 v5 (0 : Int32) v8 v9 u1 u2 u3 u4)), (.long (own_f3s0 v8 v9 v5 u1 u2 u3 u4))])
    refine own_lcmp X267 hx (hb hby at_201) (pc' := 202) rfl ?_
    by_cases hc268 : (own_f3s0 v8 v9 v5 u1 u2 u3 u4) = (own_f4 v5 (0 : Int32) v8 v9 u1 u2 u3 u4)
    · refine own_ifNo X267 hx (hb hby at_202) (pc' := 205) rfl ((if0 _ _).trans (teq (own_lc_eq.mpr hc268)).2) ?_
      refine own_aload X267 hx (hb hby at_205) (pc' := 207) rfl rfl rfl ?_
      obtain ⟨cq269, kq269, q269a, q269b, q269c⟩ := isOf hZ e267' E_b263_264
      obtain ⟨_, _, ⟨T269, L269, k269, n269⟩, -, X269, ⟨Lc269, hQ269, l269, y269, z269⟩, st269⟩ := X267.virtualBack hx (y := (⟨"com/example/typewire/typewire/packet/BitInput", "position", "()J"⟩ : MethodName)) (z := (⟨"com/example/typewire/typewire/packet/BitInput", "position", "()J"⟩ : MethodName)) hown (mvT hZ (hw _ (List.mem_of_getElem? (i := 30) rfl))) (mvT hZ (hw _ (List.mem_of_getElem? (i := 31) rfl))) (notFace_of_selects (args := #[]) (mvT hZ (hw _ (List.mem_of_getElem? (i := 33) rfl)))) (mvT hZ (hw _ (List.mem_of_getElem? (i := 33) rfl))) (mvT hZ (hw _ (List.mem_of_getElem? (i := 32) rfl))) (by decide) (backOf (W := 0) (rm6 l Z a0 hw [] b263 v10 (0 : Int64) T264.heap n0 sz264 E_b263_264 F_b263_bytes_264 F_b263_position_264) hZ (hw _ (List.mem_of_getElem? (i := 34) rfl)) (hw _ (List.mem_of_getElem? (i := 4) rfl)) (by decide) (by decide)) q269a q269c (g := (mkF m 207 #[.val (.int v1), .val (.int v2), .val (.int v3), .val (.long v4), .second, .val (.int v5), .val (.int (0 : Int32)), .val (.int v7), .val (.int v8), .val (.long v9), .second, .val (.ref v10), .val (.ref b263), .val (.long (own_f3s0 v8 v9 v5 u1 u2 u3 u4)), .second] [(.ref b263)])) rfl (by rw [hml]; rfl) (Steps.refl _) (argsL := []) (rest := []) (lenOf pd_0 rfl) rfl (by show 2 * 0 + _ ≤ _; exact Nat.le_of_eq rfl) (hb hby at_207) (fun _ _ => ⟨rfl, e267', (by decide : 2 + 0 ≤ _), (by decide : 6 + 0 ≤ _)⟩)
      dsimp only [Pt.U, Pt.locs, Pt.cells, Pt.slots] at X269 l269 y269 z269 st269 hQ269
      subst l269 y269 z269
      obtain ⟨rfl, N269q, e269'⟩ := hQ269
      have N269 := Fr.app N267 N269q
      refine own_st ?_ (fun t k => st269.trans k)
      show own_Fin _ _ _ _ T269 (mkF m 210 #[.val (.int v1), .val (.int v2), .val (.int v3), .val (.long v4), .second, .val (.int v5), .val (.int (0 : Int32)), .val (.int v7), .val (.int v8), .val (.long v9), .second, .val (.ref v10), .val (.ref b263), .val (.long (own_f3s0 v8 v9 v5 u1 u2 u3 u4)), .second] [(.long (0 : Int64))])
      refine own_ldc2Long X269 hx hZ hown (hw _ (List.mem_of_getElem? (i := 35) rfl)) (hb hby at_210) (pc' := 213) rfl ?_
      refine own_iload X269 hx (hb hby at_213) (pc' := 215) rfl rfl ?_
      refine own_i2l X269 hx (hb hby at_215) (pc' := 216) rfl ?_
      show own_Fin _ _ _ _ T269 (mkF m 216 #[.val (.int v1), .val (.int v2), .val (.int v3), .val (.long v4), .second, .val (.int v5), .val (.int (0 : Int32)), .val (.int v7), .val (.int v8), .val (.long v9), .second, .val (.ref v10), .val (.ref b263), .val (.long (own_f3s0 v8 v9 v5 u1 u2 u3 u4)), .second] [(.long (0 : Int64)), (.long (8 : Int64)), (.long (0 : Int64))])
      refine own_lmul X269 hx (hb hby at_216) (pc' := 217) rfl ?_
      show own_Fin _ _ _ _ T269 (mkF m 217 #[.val (.int v1), .val (.int v2), .val (.int v3), .val (.long v4), .second, .val (.int v5), .val (.int (0 : Int32)), .val (.int v7), .val (.int v8), .val (.long v9), .second, .val (.ref v10), .val (.ref b263), .val (.long (own_f3s0 v8 v9 v5 u1 u2 u3 u4)), .second] [(.long (0 : Int64)), (.long (0 : Int64))])
      refine own_lcmp X269 hx (hb hby at_217) (pc' := 218) rfl ?_
      refine own_ifNo X269 hx (hb hby at_218) (pc' := 221) rfl ((if0 _ _).trans (teq (own_lc_eq.mpr (by decide : (0 : Int64) = (0 : Int64)))).2) ?_
      refine own_iconst X269 hx (hb hby at_221) (pc' := 222) rfl (v := (1 : Int32)) rfl ?_
      refine own_goto X269 hx (hb hby at_222) (pc' := 226) (by decide) (by decide) ?_
      refine own_retNW X269 hx hS (by rw [e269']; exact sk264) hret (by simp) hlk (hb hby at_226) (by decide) (by decide) ?_
      exact ⟨(congrArg some (congrArg Value.int (show _ = (own_f0_146 v1 v2 v3 v4 v5 v6 v7 v8 v9 u1 u2 u3 u4) from by rw [own_f0_146, if_pos hc265, if_pos hc268]; rfl))), N269⟩
    · refine own_ifYes X267 hx (hb hby at_202) ((if0 _ _).trans (feq (mt own_lc_eq.mp hc268)).2) (pc' := 225) (by decide) (by decide) ?_
      refine own_iconst X267 hx (hb hby at_225) (pc' := 226) rfl (v := (0 : Int32)) rfl ?_
      refine own_retNW X267 hx hS (by rw [e267']; exact sk264) hret (by simp) hlk (hb hby at_226) (by decide) (by decide) ?_
      exact ⟨(congrArg some (congrArg Value.int (show _ = (own_f0_146 v1 v2 v3 v4 v5 v6 v7 v8 v9 u1 u2 u3 u4) from by rw [own_f0_146, if_pos hc265, if_neg hc268]; rfl))), N267⟩
  · by_cases hc270 : v6 = (1 : Int32)
    · refine own_fr (g' := (mkF m 157 #[.val (.int v1), .val (.int v2), .val (.int v3), .val (.long v4), .second, .val (.int v5), .val (.int (1 : Int32)), .val (.int v7), .val (.int v8), .val (.long v9), .second, .val (.ref v10), .val (.ref b263), .unset, .unset] [])) (by rw [hc270]) ?_
      refine own_iload X264 hx (hb hby at_157) (pc' := 159) rfl rfl ?_
      refine own_ifNo X264 hx (hb hby at_159) (pc' := 162) rfl ((if0 _ _).trans (tlt (by decide : (0 : Int32) < (1 : Int32))).2.2.2) ?_
      refine own_aload X264 hx (hb hby at_162) (pc' := 164) rfl rfl rfl ?_
      refine own_bipush X264 hx (hb hby at_164) (pc' := 166) rfl (v := (8 : Int32)) rfl ?_
      refine own_iload X264 hx (hb hby at_166) (pc' := 168) rfl rfl ?_
      refine own_imul X264 hx (hb hby at_168) (pc' := 169) rfl ?_
      show own_Fin _ _ _ _ T264 (mkF m 169 #[.val (.int v1), .val (.int v2), .val (.int v3), .val (.long v4), .second, .val (.int v5), .val (.int (1 : Int32)), .val (.int v7), .val (.int v8), .val (.long v9), .second, .val (.ref v10), .val (.ref b263), .unset, .unset] [(.int (8 : Int32)), (.ref b263)])
      have hsk := own_sk hs' hc270
      obtain ⟨bs271, T271, h271, kk271, X271, e271, E271, hS271, hk271, hZ271, hown271, st271⟩ := ldcS X264 hx hZ hown (hw _ (List.mem_of_getElem? (i := 36) rfl)) (own_wS hw) rfl hS sk264 (g := (mkF m 169 #[.val (.int v1), .val (.int v2), .val (.int v3), .val (.long v4), .second, .val (.int v5), .val (.int (1 : Int32)), .val (.int v7), .val (.int v8), .val (.long v9), .second, .val (.ref v10), .val (.ref b263), .unset, .unset] [(.int (8 : Int32)), (.ref b263)])) rfl (hb hby at_169) (n := 16) (by decide) (by decide) (by decide) (by decide)
      have A_v10_271 : Arv Z h271 v10 kc_v10 .byte v5 [(.int u1), (.int u2), (.int u3), (.int u4)] (.int (0 : Int32)) := A_v10_264.ext E271
      have E_b263_271 : Exa Z h271 b263 "com/example/typewire/typewire/packet/BitInput" := E_b263_264.ext E271
      have F_b263_bytes_271 : Fld Z h271 b263 "com/example/typewire/typewire/packet/BitInput" "bytes" "[B" (.ref v10) := F_b263_bytes_264.ext E271
      have F_b263_position_271 : Fld Z h271 b263 "com/example/typewire/typewire/packet/BitInput" "position" "J" (.long (0 : Int64)) := F_b263_position_264.ext E271
      have sz271 : n0 ≤ h271.size := Nat.le_trans sz264 E271.1
      refine own_st ?_ st271
      show own_Fin _ _ _ _ T271 (mkF m 171 #[.val (.int v1), .val (.int v2), .val (.int v3), .val (.long v4), .second, .val (.int v5), .val (.int (1 : Int32)), .val (.int v7), .val (.int v8), .val (.long v9), .second, .val (.ref v10), .val (.ref b263), .unset, .unset] [(.ref bs271), (.int (8 : Int32)), (.ref b263)])
      refine own_cast ?_ (sg0_171_1 l hw hx hZ271 hby hml hown271 hnm hret hlk hS271 v1 v2 v3 v4 v5 v7 v8 v9 v10 b263 bs271 kc_v10 u1 u2 u3 u4 sz271 hk271 X271 N264 e271 A_v10_271 E_b263_271 F_b263_bytes_271 F_b263_position_271 g_v10 g_b263 ne_v10_b263 (hn) (hsk))
      rw [own_f0_146, if_neg hc265, if_pos hc270]
    · by_cases hc272 : v6 = (2 : Int32)
      · refine own_fr (g' := (mkF m 157 #[.val (.int v1), .val (.int v2), .val (.int v3), .val (.long v4), .second, .val (.int v5), .val (.int (2 : Int32)), .val (.int v7), .val (.int v8), .val (.long v9), .second, .val (.ref v10), .val (.ref b263), .unset, .unset] [])) (by rw [hc272]) ?_
        refine own_iload X264 hx (hb hby at_157) (pc' := 159) rfl rfl ?_
        refine own_ifNo X264 hx (hb hby at_159) (pc' := 162) rfl ((if0 _ _).trans (tlt (by decide : (0 : Int32) < (2 : Int32))).2.2.2) ?_
        refine own_aload X264 hx (hb hby at_162) (pc' := 164) rfl rfl rfl ?_
        refine own_bipush X264 hx (hb hby at_164) (pc' := 166) rfl (v := (8 : Int32)) rfl ?_
        refine own_iload X264 hx (hb hby at_166) (pc' := 168) rfl rfl ?_
        refine own_imul X264 hx (hb hby at_168) (pc' := 169) rfl ?_
        show own_Fin _ _ _ _ T264 (mkF m 169 #[.val (.int v1), .val (.int v2), .val (.int v3), .val (.long v4), .second, .val (.int v5), .val (.int (2 : Int32)), .val (.int v7), .val (.int v8), .val (.long v9), .second, .val (.ref v10), .val (.ref b263), .unset, .unset] [(.int (16 : Int32)), (.ref b263)])
        have hsk := own_sk hs' hc272
        obtain ⟨bs273, T273, h273, kk273, X273, e273, E273, hS273, hk273, hZ273, hown273, st273⟩ := ldcS X264 hx hZ hown (hw _ (List.mem_of_getElem? (i := 36) rfl)) (own_wS hw) rfl hS sk264 (g := (mkF m 169 #[.val (.int v1), .val (.int v2), .val (.int v3), .val (.long v4), .second, .val (.int v5), .val (.int (2 : Int32)), .val (.int v7), .val (.int v8), .val (.long v9), .second, .val (.ref v10), .val (.ref b263), .unset, .unset] [(.int (16 : Int32)), (.ref b263)])) rfl (hb hby at_169) (n := 16) (by decide) (by decide) (by decide) (by decide)
        have A_v10_273 : Arv Z h273 v10 kc_v10 .byte v5 [(.int u1), (.int u2), (.int u3), (.int u4)] (.int (0 : Int32)) := A_v10_264.ext E273
        have E_b263_273 : Exa Z h273 b263 "com/example/typewire/typewire/packet/BitInput" := E_b263_264.ext E273
        have F_b263_bytes_273 : Fld Z h273 b263 "com/example/typewire/typewire/packet/BitInput" "bytes" "[B" (.ref v10) := F_b263_bytes_264.ext E273
        have F_b263_position_273 : Fld Z h273 b263 "com/example/typewire/typewire/packet/BitInput" "position" "J" (.long (0 : Int64)) := F_b263_position_264.ext E273
        have sz273 : n0 ≤ h273.size := Nat.le_trans sz264 E273.1
        refine own_st ?_ st273
        show own_Fin _ _ _ _ T273 (mkF m 171 #[.val (.int v1), .val (.int v2), .val (.int v3), .val (.long v4), .second, .val (.int v5), .val (.int (2 : Int32)), .val (.int v7), .val (.int v8), .val (.long v9), .second, .val (.ref v10), .val (.ref b263), .unset, .unset] [(.ref bs273), (.int (16 : Int32)), (.ref b263)])
        refine own_cast ?_ (sg0_171_2 l hw hx hZ273 hby hml hown273 hnm hret hlk hS273 v1 v2 v3 v4 v5 v7 v8 v9 v10 b263 bs273 kc_v10 u1 u2 u3 u4 sz273 hk273 X273 N264 e273 A_v10_273 E_b263_273 F_b263_bytes_273 F_b263_position_273 g_v10 g_b263 ne_v10_b263 (hn) (hsk))
        rw [own_f0_146, if_neg hc265, if_neg hc270, if_pos hc272]
      · by_cases hc274 : v6 = (3 : Int32)
        · refine own_fr (g' := (mkF m 157 #[.val (.int v1), .val (.int v2), .val (.int v3), .val (.long v4), .second, .val (.int v5), .val (.int (3 : Int32)), .val (.int v7), .val (.int v8), .val (.long v9), .second, .val (.ref v10), .val (.ref b263), .unset, .unset] [])) (by rw [hc274]) ?_
          refine own_iload X264 hx (hb hby at_157) (pc' := 159) rfl rfl ?_
          refine own_ifNo X264 hx (hb hby at_159) (pc' := 162) rfl ((if0 _ _).trans (tlt (by decide : (0 : Int32) < (3 : Int32))).2.2.2) ?_
          refine own_aload X264 hx (hb hby at_162) (pc' := 164) rfl rfl rfl ?_
          refine own_bipush X264 hx (hb hby at_164) (pc' := 166) rfl (v := (8 : Int32)) rfl ?_
          refine own_iload X264 hx (hb hby at_166) (pc' := 168) rfl rfl ?_
          refine own_imul X264 hx (hb hby at_168) (pc' := 169) rfl ?_
          show own_Fin _ _ _ _ T264 (mkF m 169 #[.val (.int v1), .val (.int v2), .val (.int v3), .val (.long v4), .second, .val (.int v5), .val (.int (3 : Int32)), .val (.int v7), .val (.int v8), .val (.long v9), .second, .val (.ref v10), .val (.ref b263), .unset, .unset] [(.int (24 : Int32)), (.ref b263)])
          have hsk := own_sk hs' hc274
          obtain ⟨bs275, T275, h275, kk275, X275, e275, E275, hS275, hk275, hZ275, hown275, st275⟩ := ldcS X264 hx hZ hown (hw _ (List.mem_of_getElem? (i := 36) rfl)) (own_wS hw) rfl hS sk264 (g := (mkF m 169 #[.val (.int v1), .val (.int v2), .val (.int v3), .val (.long v4), .second, .val (.int v5), .val (.int (3 : Int32)), .val (.int v7), .val (.int v8), .val (.long v9), .second, .val (.ref v10), .val (.ref b263), .unset, .unset] [(.int (24 : Int32)), (.ref b263)])) rfl (hb hby at_169) (n := 16) (by decide) (by decide) (by decide) (by decide)
          have A_v10_275 : Arv Z h275 v10 kc_v10 .byte v5 [(.int u1), (.int u2), (.int u3), (.int u4)] (.int (0 : Int32)) := A_v10_264.ext E275
          have E_b263_275 : Exa Z h275 b263 "com/example/typewire/typewire/packet/BitInput" := E_b263_264.ext E275
          have F_b263_bytes_275 : Fld Z h275 b263 "com/example/typewire/typewire/packet/BitInput" "bytes" "[B" (.ref v10) := F_b263_bytes_264.ext E275
          have F_b263_position_275 : Fld Z h275 b263 "com/example/typewire/typewire/packet/BitInput" "position" "J" (.long (0 : Int64)) := F_b263_position_264.ext E275
          have sz275 : n0 ≤ h275.size := Nat.le_trans sz264 E275.1
          refine own_st ?_ st275
          show own_Fin _ _ _ _ T275 (mkF m 171 #[.val (.int v1), .val (.int v2), .val (.int v3), .val (.long v4), .second, .val (.int v5), .val (.int (3 : Int32)), .val (.int v7), .val (.int v8), .val (.long v9), .second, .val (.ref v10), .val (.ref b263), .unset, .unset] [(.ref bs275), (.int (24 : Int32)), (.ref b263)])
          refine own_cast ?_ (sg0_171_3 l hw hx hZ275 hby hml hown275 hnm hret hlk hS275 v1 v2 v3 v4 v5 v7 v8 v9 v10 b263 bs275 kc_v10 u1 u2 u3 u4 sz275 hk275 X275 N264 e275 A_v10_275 E_b263_275 F_b263_bytes_275 F_b263_position_275 g_v10 g_b263 ne_v10_b263 (hn) (hsk))
          rw [own_f0_146, if_neg hc265, if_neg hc270, if_neg hc272, if_pos hc274]
        · have hc276 : v6 = (4 : Int32) := ((((own_s5 hn hs').resolve_left hc265).resolve_left hc270).resolve_left hc272).resolve_left hc274
          refine own_fr (g' := (mkF m 157 #[.val (.int v1), .val (.int v2), .val (.int v3), .val (.long v4), .second, .val (.int v5), .val (.int (4 : Int32)), .val (.int v7), .val (.int v8), .val (.long v9), .second, .val (.ref v10), .val (.ref b263), .unset, .unset] [])) (by rw [hc276]) ?_
          refine own_iload X264 hx (hb hby at_157) (pc' := 159) rfl rfl ?_
          refine own_ifNo X264 hx (hb hby at_159) (pc' := 162) rfl ((if0 _ _).trans (tlt (by decide : (0 : Int32) < (4 : Int32))).2.2.2) ?_
          refine own_aload X264 hx (hb hby at_162) (pc' := 164) rfl rfl rfl ?_
          refine own_bipush X264 hx (hb hby at_164) (pc' := 166) rfl (v := (8 : Int32)) rfl ?_
          refine own_iload X264 hx (hb hby at_166) (pc' := 168) rfl rfl ?_
          refine own_imul X264 hx (hb hby at_168) (pc' := 169) rfl ?_
          show own_Fin _ _ _ _ T264 (mkF m 169 #[.val (.int v1), .val (.int v2), .val (.int v3), .val (.long v4), .second, .val (.int v5), .val (.int (4 : Int32)), .val (.int v7), .val (.int v8), .val (.long v9), .second, .val (.ref v10), .val (.ref b263), .unset, .unset] [(.int (32 : Int32)), (.ref b263)])
          have hsk := own_sk hs' hc276
          obtain ⟨bs277, T277, h277, kk277, X277, e277, E277, hS277, hk277, hZ277, hown277, st277⟩ := ldcS X264 hx hZ hown (hw _ (List.mem_of_getElem? (i := 36) rfl)) (own_wS hw) rfl hS sk264 (g := (mkF m 169 #[.val (.int v1), .val (.int v2), .val (.int v3), .val (.long v4), .second, .val (.int v5), .val (.int (4 : Int32)), .val (.int v7), .val (.int v8), .val (.long v9), .second, .val (.ref v10), .val (.ref b263), .unset, .unset] [(.int (32 : Int32)), (.ref b263)])) rfl (hb hby at_169) (n := 16) (by decide) (by decide) (by decide) (by decide)
          have A_v10_277 : Arv Z h277 v10 kc_v10 .byte v5 [(.int u1), (.int u2), (.int u3), (.int u4)] (.int (0 : Int32)) := A_v10_264.ext E277
          have E_b263_277 : Exa Z h277 b263 "com/example/typewire/typewire/packet/BitInput" := E_b263_264.ext E277
          have F_b263_bytes_277 : Fld Z h277 b263 "com/example/typewire/typewire/packet/BitInput" "bytes" "[B" (.ref v10) := F_b263_bytes_264.ext E277
          have F_b263_position_277 : Fld Z h277 b263 "com/example/typewire/typewire/packet/BitInput" "position" "J" (.long (0 : Int64)) := F_b263_position_264.ext E277
          have sz277 : n0 ≤ h277.size := Nat.le_trans sz264 E277.1
          refine own_st ?_ st277
          show own_Fin _ _ _ _ T277 (mkF m 171 #[.val (.int v1), .val (.int v2), .val (.int v3), .val (.long v4), .second, .val (.int v5), .val (.int (4 : Int32)), .val (.int v7), .val (.int v8), .val (.long v9), .second, .val (.ref v10), .val (.ref b263), .unset, .unset] [(.ref bs277), (.int (32 : Int32)), (.ref b263)])
          refine own_cast ?_ (sg0_171_4 l hw hx hZ277 hby hml hown277 hnm hret hlk hS277 v1 v2 v3 v4 v5 v7 v8 v9 v10 b263 bs277 kc_v10 u1 u2 u3 u4 sz277 hk277 X277 N264 e277 A_v10_277 E_b263_277 F_b263_bytes_277 F_b263_position_277 g_v10 g_b263 ne_v10_b263 (hn) (hsk))
          rw [own_f0_146, if_neg hc265, if_neg hc270, if_neg hc272, if_neg hc274]
set_option maxRecDepth 65536 in
set_option maxHeartbeats 40000000 in
theorem sg0_84 {p : Program} (l : Launch) {e : Env} {s0 : State} {vm0 : Vm} {k0 : Nat} {m : MethodId} {args : Array Value} {below : List Frame} {meth : Method} {c : Code} {Z : State} {a0 : Array Value} (hw : ∀ d ∈ tables_1, d.before a0 Z = true) (hx : p.tables.exec = Jvm.exec) (hZ : Z.Warmed39 (s0.setVm vm0).vm) (hby : c.code = code) (hml : c.maxLocals = 15) (hown : (s0.setVm vm0).vm.findClass "com/example/typewire/typewire/packet/BitInputBytesBeforePinLaw" = some m.cls) (hnm : meth.name = "law") (hret : meth.sig.returnType = (some .boolean)) (hlk : meth.locks = false) (hS : s0.Since vm0 k0) (v1 : Int32) (v2 : Int32) (v3 : Int32) (v4 : Int64) (v5 : Int32) (v6 : Int32) (v7 : Int32) (v8 : Int32) (v9 : Int64) {h0 : Heap} {n0 : Nat} (Z0 : n0 ≤ h0.size) (hk0 : k0 ≤ h0.size) {T0 : State} {L0 : List Loc} (X0 : Stand p l e room_1 (s0.setVm vm0) m args below meth c T0 L0 0 0) (N0 : Fr n0 L0) (e0 : T0.heap = h0) (hn : 0 ≤ v5.toInt ∧ v5.toInt ≤ 4) (hs' : 0 ≤ v6.toInt ∧ v6.toInt ≤ v5.toInt) :
    own_Fin p.tables e below (own_EndW below s0 (own_L n0 (.int (own_f0_84 v1 v2 v3 v4 v5 v6 v7 v8 v9))) 4 26) T0 (mkF m 84 #[.val (.int v1), .val (.int v2), .val (.int v3), .val (.long v4), .second, .val (.int v5), .val (.int v6), .val (.int v7), .val (.int v8), .val (.long v9), .second, .unset, .unset, .unset, .unset] []) := by
  refine own_iload X0 hx (hb hby at_84) (pc' := 86) rfl rfl ?_
  obtain ⟨T254, h254, k254, X254, e254, E254, A254, st254⟩ := newP X0 hx hZ (hw _ (List.mem_of_getElem? (i := 1) rfl)) e0 (g := (mkF m 86 #[.val (.int v1), .val (.int v2), .val (.int v3), .val (.long v4), .second, .val (.int v5), .val (.int v6), .val (.int v7), .val (.int v8), .val (.long v9), .second, .unset, .unset, .unset, .unset] [(.int v5)])) rfl (hb hby at_86) rfl (own_nneg hn) (cap := 4) (own_cap hn) (by decide) (by decide) (by decide)
  obtain ⟨b254, g254⟩ : ∃ z, z = h0.size := ⟨_, rfl⟩
  rw [← g254] at A254 st254
  have g_b254 : n0 ≤ b254 := Nat.le_trans Z0 (Nat.le_of_eq g254.symm)
  have A_b254_254 : Arv Z h254 b254 k254 .byte v5 [(.int (0 : Int32)), (.int (0 : Int32)), (.int (0 : Int32)), (.int (0 : Int32))] (.int (0 : Int32)) := (Arv.new A254 (own_nneg hn)).pad (pad_rep [] (.int (0 : Int32)) 4)
  have sz254 : n0 ≤ h254.size := Nat.le_trans Z0 E254.1
  have sk254 : k0 ≤ h254.size := Nat.le_trans hk0 E254.1
  refine own_st ?_ st254
  show own_Fin _ _ _ _ T254 (mkF m 88 #[.val (.int v1), .val (.int v2), .val (.int v3), .val (.long v4), .second, .val (.int v5), .val (.int v6), .val (.int v7), .val (.int v8), .val (.long v9), .second, .unset, .unset, .unset, .unset] [(.ref b254)])
  refine own_astore X254 hx (hb hby at_88) (pc' := 90) rfl (Ls' := #[.val (.int v1), .val (.int v2), .val (.int v3), .val (.long v4), .second, .val (.int v5), .val (.int v6), .val (.int v7), .val (.int v8), .val (.long v9), .second, .val (.ref b254), .unset, .unset, .unset]) rfl rfl ?_
  refine own_iload X254 hx (hb hby at_90) (pc' := 92) rfl rfl ?_
  by_cases hc255 : (0 : Int32) < v5
  · refine own_ifNo X254 hx (hb hby at_92) (pc' := 95) rfl ((if0 _ _).trans (tlt hc255).2.2.2) ?_
    refine own_aload X254 hx (hb hby at_95) (pc' := 97) rfl rfl rfl ?_
    refine own_iconst X254 hx (hb hby at_97) (pc' := 98) rfl (v := (0 : Int32)) rfl ?_
    refine own_iloadN X254 hx (hb hby at_98) (pc' := 99) rfl rfl ?_
    refine own_bipush X254 hx (hb hby at_99) (pc' := 101) rfl (v := (24 : Int32)) rfl ?_
    refine own_iushr X254 hx (hb hby at_101) (pc' := 102) rfl ?_
    refine own_i2b X254 hx (hb hby at_102) (pc' := 103) rfl ?_
    obtain ⟨cl256, Ar256, qa256, S256, M256, H256, G256⟩ := id A_b254_254
    have hin256 : ¬ ((0 : Int32) < 0 ∨ cl256.slots.size ≤ ((0 : Int32)).toNatClampNeg) := inb_of S256 ⟨by decide, hc255⟩
    obtain ⟨T256, h256, X256, e256, W256, st256⟩ := stB X254 hx hZ e254 Ar256 (j := (0 : Int32)) hin256 (g := (mkF m 103 #[.val (.int v1), .val (.int v2), .val (.int v3), .val (.long v4), .second, .val (.int v5), .val (.int v6), .val (.int v7), .val (.int v8), .val (.long v9), .second, .val (.ref b254), .unset, .unset, .unset] [(.int ((own_ush32 v1 (24 : Int32)).toInt8.toInt32)), (.int (0 : Int32)), (.ref b254)])) rfl rfl (hb hby at_103)
    have A_b254_256 : Arv Z h256 b254 k254 .byte v5 [(.int (nar .byte ((own_ush32 v1 (24 : Int32)).toInt8.toInt32))), (.int (0 : Int32)), (.int (0 : Int32)), (.int (0 : Int32))] (.int (0 : Int32)) := Arv.set Ar256 qa256 S256 M256 H256 G256 (fits_nar_byte _) W256 0 rfl (Nat.le_of_ble_eq_true rfl)
    have N256 := Fr.snoc X256 N0 g_b254
    have sz256 : n0 ≤ h256.size := Nat.le_trans sz254 (Keep.of_wr W256).1
    have sk256 : k0 ≤ h256.size := Nat.le_trans sk254 (Keep.of_wr W256).1
    refine own_st ?_ st256
    show own_Fin _ _ _ _ T256 (mkF m 104 #[.val (.int v1), .val (.int v2), .val (.int v3), .val (.long v4), .second, .val (.int v5), .val (.int v6), .val (.int v7), .val (.int v8), .val (.long v9), .second, .val (.ref b254), .unset, .unset, .unset] [])
    refine own_iload X256 hx (hb hby at_104) (pc' := 106) rfl rfl ?_
    refine own_iconst X256 hx (hb hby at_106) (pc' := 107) rfl (v := (1 : Int32)) rfl ?_
    by_cases hc257 : (1 : Int32) < v5
    · refine own_icmpNo X256 hx (hb hby at_107) (pc' := 110) rfl (tlt hc257).2.2.2 ?_
      refine own_aload X256 hx (hb hby at_110) (pc' := 112) rfl rfl rfl ?_
      refine own_iconst X256 hx (hb hby at_112) (pc' := 113) rfl (v := (1 : Int32)) rfl ?_
      refine own_iloadN X256 hx (hb hby at_113) (pc' := 114) rfl rfl ?_
      refine own_bipush X256 hx (hb hby at_114) (pc' := 116) rfl (v := (16 : Int32)) rfl ?_
      refine own_iushr X256 hx (hb hby at_116) (pc' := 117) rfl ?_
      refine own_i2b X256 hx (hb hby at_117) (pc' := 118) rfl ?_
      obtain ⟨cl258, Ar258, qa258, S258, M258, H258, G258⟩ := id A_b254_256
      have hin258 : ¬ ((1 : Int32) < 0 ∨ cl258.slots.size ≤ ((1 : Int32)).toNatClampNeg) := inb_of S258 ⟨by decide, hc257⟩
      obtain ⟨T258, h258, X258, e258, W258, st258⟩ := stB X256 hx hZ e256 Ar258 (j := (1 : Int32)) hin258 (g := (mkF m 118 #[.val (.int v1), .val (.int v2), .val (.int v3), .val (.long v4), .second, .val (.int v5), .val (.int v6), .val (.int v7), .val (.int v8), .val (.long v9), .second, .val (.ref b254), .unset, .unset, .unset] [(.int ((own_ush32 v1 (16 : Int32)).toInt8.toInt32)), (.int (1 : Int32)), (.ref b254)])) rfl rfl (hb hby at_118)
      have A_b254_258 : Arv Z h258 b254 k254 .byte v5 [(.int (nar .byte ((own_ush32 v1 (24 : Int32)).toInt8.toInt32))), (.int (nar .byte ((own_ush32 v1 (16 : Int32)).toInt8.toInt32))), (.int (0 : Int32)), (.int (0 : Int32))] (.int (0 : Int32)) := Arv.set Ar258 qa258 S258 M258 H258 G258 (fits_nar_byte _) W258 1 rfl (Nat.le_of_ble_eq_true rfl)
      have N258 := Fr.snoc X258 N256 g_b254
      have sz258 : n0 ≤ h258.size := Nat.le_trans sz256 (Keep.of_wr W258).1
      have sk258 : k0 ≤ h258.size := Nat.le_trans sk256 (Keep.of_wr W258).1
      refine own_st ?_ st258
      show own_Fin _ _ _ _ T258 (mkF m 119 #[.val (.int v1), .val (.int v2), .val (.int v3), .val (.long v4), .second, .val (.int v5), .val (.int v6), .val (.int v7), .val (.int v8), .val (.long v9), .second, .val (.ref b254), .unset, .unset, .unset] [])
      refine own_iload X258 hx (hb hby at_119) (pc' := 121) rfl rfl ?_
      refine own_iconst X258 hx (hb hby at_121) (pc' := 122) rfl (v := (2 : Int32)) rfl ?_
      by_cases hc259 : (2 : Int32) < v5
      · refine own_icmpNo X258 hx (hb hby at_122) (pc' := 125) rfl (tlt hc259).2.2.2 ?_
        refine own_aload X258 hx (hb hby at_125) (pc' := 127) rfl rfl rfl ?_
        refine own_iconst X258 hx (hb hby at_127) (pc' := 128) rfl (v := (2 : Int32)) rfl ?_
        refine own_iloadN X258 hx (hb hby at_128) (pc' := 129) rfl rfl ?_
        refine own_bipush X258 hx (hb hby at_129) (pc' := 131) rfl (v := (8 : Int32)) rfl ?_
        refine own_iushr X258 hx (hb hby at_131) (pc' := 132) rfl ?_
        refine own_i2b X258 hx (hb hby at_132) (pc' := 133) rfl ?_
        obtain ⟨cl260, Ar260, qa260, S260, M260, H260, G260⟩ := id A_b254_258
        have hin260 : ¬ ((2 : Int32) < 0 ∨ cl260.slots.size ≤ ((2 : Int32)).toNatClampNeg) := inb_of S260 ⟨by decide, hc259⟩
        obtain ⟨T260, h260, X260, e260, W260, st260⟩ := stB X258 hx hZ e258 Ar260 (j := (2 : Int32)) hin260 (g := (mkF m 133 #[.val (.int v1), .val (.int v2), .val (.int v3), .val (.long v4), .second, .val (.int v5), .val (.int v6), .val (.int v7), .val (.int v8), .val (.long v9), .second, .val (.ref b254), .unset, .unset, .unset] [(.int ((own_ush32 v1 (8 : Int32)).toInt8.toInt32)), (.int (2 : Int32)), (.ref b254)])) rfl rfl (hb hby at_133)
        have A_b254_260 : Arv Z h260 b254 k254 .byte v5 [(.int (nar .byte ((own_ush32 v1 (24 : Int32)).toInt8.toInt32))), (.int (nar .byte ((own_ush32 v1 (16 : Int32)).toInt8.toInt32))), (.int (nar .byte ((own_ush32 v1 (8 : Int32)).toInt8.toInt32))), (.int (0 : Int32))] (.int (0 : Int32)) := Arv.set Ar260 qa260 S260 M260 H260 G260 (fits_nar_byte _) W260 2 rfl (Nat.le_of_ble_eq_true rfl)
        have N260 := Fr.snoc X260 N258 g_b254
        have sz260 : n0 ≤ h260.size := Nat.le_trans sz258 (Keep.of_wr W260).1
        have sk260 : k0 ≤ h260.size := Nat.le_trans sk258 (Keep.of_wr W260).1
        refine own_st ?_ st260
        show own_Fin _ _ _ _ T260 (mkF m 134 #[.val (.int v1), .val (.int v2), .val (.int v3), .val (.long v4), .second, .val (.int v5), .val (.int v6), .val (.int v7), .val (.int v8), .val (.long v9), .second, .val (.ref b254), .unset, .unset, .unset] [])
        refine own_iload X260 hx (hb hby at_134) (pc' := 136) rfl rfl ?_
        refine own_iconst X260 hx (hb hby at_136) (pc' := 137) rfl (v := (3 : Int32)) rfl ?_
        by_cases hc261 : (3 : Int32) < v5
        · refine own_icmpNo X260 hx (hb hby at_137) (pc' := 140) rfl (tlt hc261).2.2.2 ?_
          refine own_aload X260 hx (hb hby at_140) (pc' := 142) rfl rfl rfl ?_
          refine own_iconst X260 hx (hb hby at_142) (pc' := 143) rfl (v := (3 : Int32)) rfl ?_
          refine own_iloadN X260 hx (hb hby at_143) (pc' := 144) rfl rfl ?_
          refine own_i2b X260 hx (hb hby at_144) (pc' := 145) rfl ?_
          obtain ⟨cl262, Ar262, qa262, S262, M262, H262, G262⟩ := id A_b254_260
          have hin262 : ¬ ((3 : Int32) < 0 ∨ cl262.slots.size ≤ ((3 : Int32)).toNatClampNeg) := inb_of S262 ⟨by decide, hc261⟩
          obtain ⟨T262, h262, X262, e262, W262, st262⟩ := stB X260 hx hZ e260 Ar262 (j := (3 : Int32)) hin262 (g := (mkF m 145 #[.val (.int v1), .val (.int v2), .val (.int v3), .val (.long v4), .second, .val (.int v5), .val (.int v6), .val (.int v7), .val (.int v8), .val (.long v9), .second, .val (.ref b254), .unset, .unset, .unset] [(.int (v1.toInt8.toInt32)), (.int (3 : Int32)), (.ref b254)])) rfl rfl (hb hby at_145)
          have A_b254_262 : Arv Z h262 b254 k254 .byte v5 [(.int (nar .byte ((own_ush32 v1 (24 : Int32)).toInt8.toInt32))), (.int (nar .byte ((own_ush32 v1 (16 : Int32)).toInt8.toInt32))), (.int (nar .byte ((own_ush32 v1 (8 : Int32)).toInt8.toInt32))), (.int (nar .byte (v1.toInt8.toInt32)))] (.int (0 : Int32)) := Arv.set Ar262 qa262 S262 M262 H262 G262 (fits_nar_byte _) W262 3 rfl (Nat.le_of_ble_eq_true rfl)
          have N262 := Fr.snoc X262 N260 g_b254
          have sz262 : n0 ≤ h262.size := Nat.le_trans sz260 (Keep.of_wr W262).1
          have sk262 : k0 ≤ h262.size := Nat.le_trans sk260 (Keep.of_wr W262).1
          refine own_st ?_ st262
          show own_Fin _ _ _ _ T262 (mkF m 146 #[.val (.int v1), .val (.int v2), .val (.int v3), .val (.long v4), .second, .val (.int v5), .val (.int v6), .val (.int v7), .val (.int v8), .val (.long v9), .second, .val (.ref b254), .unset, .unset, .unset] [])
          refine own_cast ?_ (sg0_146 l hw hx hZ hby hml hown hnm hret hlk hS v1 v2 v3 v4 v5 v6 v7 v8 v9 b254 k254 (nar .byte ((own_ush32 v1 (24 : Int32)).toInt8.toInt32)) (nar .byte ((own_ush32 v1 (16 : Int32)).toInt8.toInt32)) (nar .byte ((own_ush32 v1 (8 : Int32)).toInt8.toInt32)) (nar .byte (v1.toInt8.toInt32)) sz262 sk262 X262 N262 e262 A_b254_262 g_b254 (hn) (hs'))
          rw [own_f0_84, if_pos hc255, if_pos hc257, if_pos hc259, if_pos hc261]
        · refine own_icmpYes X260 hx (hb hby at_137) (flt hc261).2.2.2 (pc' := 146) (by decide) (by decide) ?_
          refine own_cast ?_ (sg0_146 l hw hx hZ hby hml hown hnm hret hlk hS v1 v2 v3 v4 v5 v6 v7 v8 v9 b254 k254 (nar .byte ((own_ush32 v1 (24 : Int32)).toInt8.toInt32)) (nar .byte ((own_ush32 v1 (16 : Int32)).toInt8.toInt32)) (nar .byte ((own_ush32 v1 (8 : Int32)).toInt8.toInt32)) (0 : Int32) sz260 sk260 X260 N260 e260 A_b254_260 g_b254 (hn) (hs'))
          rw [own_f0_84, if_pos hc255, if_pos hc257, if_pos hc259, if_neg hc261]
      · refine own_icmpYes X258 hx (hb hby at_122) (flt hc259).2.2.2 (pc' := 134) (by decide) (by decide) ?_
        refine own_iload X258 hx (hb hby at_134) (pc' := 136) rfl rfl ?_
        refine own_iconst X258 hx (hb hby at_136) (pc' := 137) rfl (v := (3 : Int32)) rfl ?_
        refine own_icmpYes X258 hx (hb hby at_137) (flt (fun q => hc259 (Int32.lt_of_le_of_lt (by decide) q))).2.2.2 (pc' := 146) (by decide) (by decide) ?_
        refine own_cast ?_ (sg0_146 l hw hx hZ hby hml hown hnm hret hlk hS v1 v2 v3 v4 v5 v6 v7 v8 v9 b254 k254 (nar .byte ((own_ush32 v1 (24 : Int32)).toInt8.toInt32)) (nar .byte ((own_ush32 v1 (16 : Int32)).toInt8.toInt32)) (0 : Int32) (0 : Int32) sz258 sk258 X258 N258 e258 A_b254_258 g_b254 (hn) (hs'))
        rw [own_f0_84, if_pos hc255, if_pos hc257, if_neg hc259]
    · refine own_icmpYes X256 hx (hb hby at_107) (flt hc257).2.2.2 (pc' := 119) (by decide) (by decide) ?_
      refine own_iload X256 hx (hb hby at_119) (pc' := 121) rfl rfl ?_
      refine own_iconst X256 hx (hb hby at_121) (pc' := 122) rfl (v := (2 : Int32)) rfl ?_
      refine own_icmpYes X256 hx (hb hby at_122) (flt (fun q => hc257 (Int32.lt_of_le_of_lt (by decide) q))).2.2.2 (pc' := 134) (by decide) (by decide) ?_
      refine own_iload X256 hx (hb hby at_134) (pc' := 136) rfl rfl ?_
      refine own_iconst X256 hx (hb hby at_136) (pc' := 137) rfl (v := (3 : Int32)) rfl ?_
      refine own_icmpYes X256 hx (hb hby at_137) (flt (fun q => hc257 (Int32.lt_of_le_of_lt (by decide) q))).2.2.2 (pc' := 146) (by decide) (by decide) ?_
      refine own_cast ?_ (sg0_146 l hw hx hZ hby hml hown hnm hret hlk hS v1 v2 v3 v4 v5 v6 v7 v8 v9 b254 k254 (nar .byte ((own_ush32 v1 (24 : Int32)).toInt8.toInt32)) (0 : Int32) (0 : Int32) (0 : Int32) sz256 sk256 X256 N256 e256 A_b254_256 g_b254 (hn) (hs'))
      rw [own_f0_84, if_pos hc255, if_neg hc257]
  · refine own_ifYes X254 hx (hb hby at_92) ((if0 _ _).trans (flt hc255).2.2.2) (pc' := 104) (by decide) (by decide) ?_
    refine own_iload X254 hx (hb hby at_104) (pc' := 106) rfl rfl ?_
    refine own_iconst X254 hx (hb hby at_106) (pc' := 107) rfl (v := (1 : Int32)) rfl ?_
    refine own_icmpYes X254 hx (hb hby at_107) (flt (fun q => hc255 (Int32.lt_of_le_of_lt (by decide) q))).2.2.2 (pc' := 119) (by decide) (by decide) ?_
    refine own_iload X254 hx (hb hby at_119) (pc' := 121) rfl rfl ?_
    refine own_iconst X254 hx (hb hby at_121) (pc' := 122) rfl (v := (2 : Int32)) rfl ?_
    refine own_icmpYes X254 hx (hb hby at_122) (flt (fun q => hc255 (Int32.lt_of_le_of_lt (by decide) q))).2.2.2 (pc' := 134) (by decide) (by decide) ?_
    refine own_iload X254 hx (hb hby at_134) (pc' := 136) rfl rfl ?_
    refine own_iconst X254 hx (hb hby at_136) (pc' := 137) rfl (v := (3 : Int32)) rfl ?_
    refine own_icmpYes X254 hx (hb hby at_137) (flt (fun q => hc255 (Int32.lt_of_le_of_lt (by decide) q))).2.2.2 (pc' := 146) (by decide) (by decide) ?_
    refine own_cast ?_ (sg0_146 l hw hx hZ hby hml hown hnm hret hlk hS v1 v2 v3 v4 v5 v6 v7 v8 v9 b254 k254 (0 : Int32) (0 : Int32) (0 : Int32) (0 : Int32) sz254 sk254 X254 N0 e254 A_b254_254 g_b254 (hn) (hs'))
    rw [own_f0_84, if_neg hc255]
set_option maxRecDepth 65536 in
set_option maxHeartbeats 40000000 in
theorem sg0_62 {p : Program} (l : Launch) {e : Env} {s0 : State} {vm0 : Vm} {k0 : Nat} {m : MethodId} {args : Array Value} {below : List Frame} {meth : Method} {c : Code} {Z : State} {a0 : Array Value} (hw : ∀ d ∈ tables_1, d.before a0 Z = true) (hx : p.tables.exec = Jvm.exec) (hZ : Z.Warmed39 (s0.setVm vm0).vm) (hby : c.code = code) (hml : c.maxLocals = 15) (hown : (s0.setVm vm0).vm.findClass "com/example/typewire/typewire/packet/BitInputBytesBeforePinLaw" = some m.cls) (hnm : meth.name = "law") (hret : meth.sig.returnType = (some .boolean)) (hlk : meth.locks = false) (hS : s0.Since vm0 k0) (v1 : Int32) (v2 : Int32) (v3 : Int32) (v4 : Int64) (v5 : Int32) (v6 : Int32) (v7 : Int32) (v8 : Int32) {h0 : Heap} {n0 : Nat} (Z0 : n0 ≤ h0.size) (hk0 : k0 ≤ h0.size) {T0 : State} {L0 : List Loc} (X0 : Stand p l e room_1 (s0.setVm vm0) m args below meth c T0 L0 0 0) (N0 : Fr n0 L0) (e0 : T0.heap = h0) (hn : 0 ≤ v5.toInt ∧ v5.toInt ≤ 4) (hs' : 0 ≤ v6.toInt ∧ v6.toInt ≤ v5.toInt) :
    own_Fin p.tables e below (own_EndW below s0 (own_L n0 (.int (own_f0_62 v1 v2 v3 v4 v5 v6 v7 v8))) 4 26) T0 (mkF m 62 #[.val (.int v1), .val (.int v2), .val (.int v3), .val (.long v4), .second, .val (.int v5), .val (.int v6), .val (.int v7), .val (.int v8), .unset, .unset, .unset, .unset, .unset, .unset] []) := by
  refine own_iloadN X0 hx (hb hby at_62) (pc' := 63) rfl rfl ?_
  refine own_bipush X0 hx (hb hby at_63) (pc' := 65) rfl (v := (9 : Int32)) rfl ?_
  refine own_iushr X0 hx (hb hby at_65) (pc' := 66) rfl ?_
  refine own_iconst X0 hx (hb hby at_66) (pc' := 67) rfl (v := (1 : Int32)) rfl ?_
  refine own_iand X0 hx (hb hby at_67) (pc' := 68) rfl ?_
  by_cases hc253 : ((own_ush32 v2 (9 : Int32)) &&& (1 : Int32)) = (0 : Int32)
  · refine own_ifYes X0 hx (hb hby at_68) ((if0 _ _).trans (teq hc253).1) (pc' := 75) (by decide) (by decide) ?_
    refine own_lloadN X0 hx (hb hby at_75) (pc' := 76) rfl rfl ?_
    refine own_ldc2Long X0 hx hZ hown (hw _ (List.mem_of_getElem? (i := 0) rfl)) (hb hby at_76) (pc' := 79) rfl ?_
    refine own_lrem X0 hx (hb hby at_79) (pc' := 80) rfl (by decide) ?_
    refine own_lconst X0 hx (hb hby at_80) (pc' := 81) rfl (v := (1 : Int64)) rfl ?_
    refine own_lsub X0 hx (hb hby at_81) (pc' := 82) rfl ?_
    refine own_lstore X0 hx (hb hby at_82) (pc' := 84) rfl (Ls' := #[.val (.int v1), .val (.int v2), .val (.int v3), .val (.long v4), .second, .val (.int v5), .val (.int v6), .val (.int v7), .val (.int v8), .val (.long ((v4 - (v4 / (6 : Int64)) * (6 : Int64)) - (1 : Int64))), .second, .unset, .unset, .unset, .unset]) rfl ?_
    refine own_cast ?_ (sg0_84 l hw hx hZ hby hml hown hnm hret hlk hS v1 v2 v3 v4 v5 v6 v7 v8 ((v4 - (v4 / (6 : Int64)) * (6 : Int64)) - (1 : Int64)) Z0 hk0 X0 N0 e0 (hn) (hs'))
    rw [own_f0_62, if_pos hc253]
  · refine own_ifNo X0 hx (hb hby at_68) (pc' := 71) rfl ((if0 _ _).trans (feq hc253).1) ?_
    refine own_lloadN X0 hx (hb hby at_71) (pc' := 72) rfl rfl ?_
    refine own_goto X0 hx (hb hby at_72) (pc' := 82) (by decide) (by decide) ?_
    refine own_lstore X0 hx (hb hby at_82) (pc' := 84) rfl (Ls' := #[.val (.int v1), .val (.int v2), .val (.int v3), .val (.long v4), .second, .val (.int v5), .val (.int v6), .val (.int v7), .val (.int v8), .val (.long v4), .second, .unset, .unset, .unset, .unset]) rfl ?_
    refine own_cast ?_ (sg0_84 l hw hx hZ hby hml hown hnm hret hlk hS v1 v2 v3 v4 v5 v6 v7 v8 v4 Z0 hk0 X0 N0 e0 (hn) (hs'))
    rw [own_f0_62, if_neg hc253]
set_option maxRecDepth 65536 in
set_option maxHeartbeats 40000000 in
theorem sg0_0 {p : Program} (l : Launch) {e : Env} {s0 : State} {vm0 : Vm} {k0 : Nat} {m : MethodId} {args : Array Value} {below : List Frame} {meth : Method} {c : Code} {Z : State} {a0 : Array Value} (hw : ∀ d ∈ tables_1, d.before a0 Z = true) (hx : p.tables.exec = Jvm.exec) (hZ : Z.Warmed39 (s0.setVm vm0).vm) (hby : c.code = code) (hml : c.maxLocals = 15) (hown : (s0.setVm vm0).vm.findClass "com/example/typewire/typewire/packet/BitInputBytesBeforePinLaw" = some m.cls) (hnm : meth.name = "law") (hret : meth.sig.returnType = (some .boolean)) (hlk : meth.locks = false) (hS : s0.Since vm0 k0) (q1 : Int32) (q2 : Int32) (q3 : Int32) (q4 : Int64) {h0 : Heap} {n0 : Nat} (Z0 : n0 ≤ h0.size) (hk0 : k0 ≤ h0.size) {T0 : State} {L0 : List Loc} (X0 : Stand p l e room_1 (s0.setVm vm0) m args below meth c T0 L0 0 0) (N0 : Fr n0 L0) (e0 : T0.heap = h0)  :
    own_Fin p.tables e below (own_EndW below s0 (own_L n0 (.int (own_f0 q1 q2 q3 q4))) 4 26) T0 (mkF m 0 #[.val (.int q1), .val (.int q2), .val (.int q3), .val (.long q4), .second, .unset, .unset, .unset, .unset, .unset, .unset, .unset, .unset, .unset, .unset] []) := by
  refine own_iloadN X0 hx (hb hby at_0) (pc' := 1) rfl rfl ?_
  refine own_bipush X0 hx (hb hby at_1) (pc' := 3) rfl (v := (7 : Int32)) rfl ?_
  refine own_iand X0 hx (hb hby at_3) (pc' := 4) rfl ?_
  refine own_iconst X0 hx (hb hby at_4) (pc' := 5) rfl (v := (5 : Int32)) rfl ?_
  refine own_irem X0 hx (hb hby at_5) (pc' := 6) rfl (by decide) ?_
  refine own_istore X0 hx (hb hby at_6) (pc' := 8) rfl (Ls' := #[.val (.int q1), .val (.int q2), .val (.int q3), .val (.long q4), .second, .val (.int ((q2 &&& (7 : Int32)) - ((q2 &&& (7 : Int32)) / (5 : Int32)) * (5 : Int32))), .unset, .unset, .unset, .unset, .unset, .unset, .unset, .unset, .unset]) rfl ?_
  refine own_iloadN X0 hx (hb hby at_8) (pc' := 9) rfl rfl ?_
  refine own_iconst X0 hx (hb hby at_9) (pc' := 10) rfl (v := (3 : Int32)) rfl ?_
  refine own_iushr X0 hx (hb hby at_10) (pc' := 11) rfl ?_
  refine own_bipush X0 hx (hb hby at_11) (pc' := 13) rfl (v := (7 : Int32)) rfl ?_
  refine own_iand X0 hx (hb hby at_13) (pc' := 14) rfl ?_
  refine own_iload X0 hx (hb hby at_14) (pc' := 16) rfl rfl ?_
  refine own_iconst X0 hx (hb hby at_16) (pc' := 17) rfl (v := (1 : Int32)) rfl ?_
  refine own_iadd X0 hx (hb hby at_17) (pc' := 18) rfl ?_
  refine own_irem X0 hx (hb hby at_18) (pc' := 19) rfl (own_nz (own_nr q2)) ?_
  refine own_istore X0 hx (hb hby at_19) (pc' := 21) rfl (Ls' := #[.val (.int q1), .val (.int q2), .val (.int q3), .val (.long q4), .second, .val (.int ((q2 &&& (7 : Int32)) - ((q2 &&& (7 : Int32)) / (5 : Int32)) * (5 : Int32))), .val (.int (((own_ush32 q2 (3 : Int32)) &&& (7 : Int32)) - (((own_ush32 q2 (3 : Int32)) &&& (7 : Int32)) / (((q2 &&& (7 : Int32)) - ((q2 &&& (7 : Int32)) / (5 : Int32)) * (5 : Int32)) + (1 : Int32))) * (((q2 &&& (7 : Int32)) - ((q2 &&& (7 : Int32)) / (5 : Int32)) * (5 : Int32)) + (1 : Int32)))), .unset, .unset, .unset, .unset, .unset, .unset, .unset, .unset]) rfl ?_
  refine own_iloadN X0 hx (hb hby at_21) (pc' := 22) rfl rfl ?_
  refine own_bipush X0 hx (hb hby at_22) (pc' := 24) rfl (v := (7 : Int32)) rfl ?_
  refine own_iushr X0 hx (hb hby at_24) (pc' := 25) rfl ?_
  refine own_iconst X0 hx (hb hby at_25) (pc' := 26) rfl (v := (3 : Int32)) rfl ?_
  refine own_iand X0 hx (hb hby at_26) (pc' := 27) rfl ?_
  refine own_istore X0 hx (hb hby at_27) (pc' := 29) rfl (Ls' := #[.val (.int q1), .val (.int q2), .val (.int q3), .val (.long q4), .second, .val (.int ((q2 &&& (7 : Int32)) - ((q2 &&& (7 : Int32)) / (5 : Int32)) * (5 : Int32))), .val (.int (((own_ush32 q2 (3 : Int32)) &&& (7 : Int32)) - (((own_ush32 q2 (3 : Int32)) &&& (7 : Int32)) / (((q2 &&& (7 : Int32)) - ((q2 &&& (7 : Int32)) / (5 : Int32)) * (5 : Int32)) + (1 : Int32))) * (((q2 &&& (7 : Int32)) - ((q2 &&& (7 : Int32)) / (5 : Int32)) * (5 : Int32)) + (1 : Int32)))), .val (.int ((own_ush32 q2 (7 : Int32)) &&& (3 : Int32))), .unset, .unset, .unset, .unset, .unset, .unset, .unset]) rfl ?_
  refine own_iloadN X0 hx (hb hby at_29) (pc' := 30) rfl rfl ?_
  refine own_bipush X0 hx (hb hby at_30) (pc' := 32) rfl (v := (6 : Int32)) rfl ?_
  refine own_iushr X0 hx (hb hby at_32) (pc' := 33) rfl ?_
  refine own_iconst X0 hx (hb hby at_33) (pc' := 34) rfl (v := (1 : Int32)) rfl ?_
  refine own_iand X0 hx (hb hby at_34) (pc' := 35) rfl ?_
  by_cases hc252 : ((own_ush32 q2 (6 : Int32)) &&& (1 : Int32)) = (0 : Int32)
  · refine own_ifYes X0 hx (hb hby at_35) ((if0 _ _).trans (teq hc252).1) (pc' := 55) (by decide) (by decide) ?_
    refine own_iloadN X0 hx (hb hby at_55) (pc' := 56) rfl rfl ?_
    refine own_sipush X0 hx (hb hby at_56) (pc' := 59) rfl (v := (255 : Int32)) rfl ?_
    refine own_iand X0 hx (hb hby at_59) (pc' := 60) rfl ?_
    refine own_istore X0 hx (hb hby at_60) (pc' := 62) rfl (Ls' := #[.val (.int q1), .val (.int q2), .val (.int q3), .val (.long q4), .second, .val (.int ((q2 &&& (7 : Int32)) - ((q2 &&& (7 : Int32)) / (5 : Int32)) * (5 : Int32))), .val (.int (((own_ush32 q2 (3 : Int32)) &&& (7 : Int32)) - (((own_ush32 q2 (3 : Int32)) &&& (7 : Int32)) / (((q2 &&& (7 : Int32)) - ((q2 &&& (7 : Int32)) / (5 : Int32)) * (5 : Int32)) + (1 : Int32))) * (((q2 &&& (7 : Int32)) - ((q2 &&& (7 : Int32)) / (5 : Int32)) * (5 : Int32)) + (1 : Int32)))), .val (.int ((own_ush32 q2 (7 : Int32)) &&& (3 : Int32))), .val (.int (q3 &&& (255 : Int32))), .unset, .unset, .unset, .unset, .unset, .unset]) rfl ?_
    refine own_cast ?_ (sg0_62 l hw hx hZ hby hml hown hnm hret hlk hS q1 q2 q3 q4 ((q2 &&& (7 : Int32)) - ((q2 &&& (7 : Int32)) / (5 : Int32)) * (5 : Int32)) (((own_ush32 q2 (3 : Int32)) &&& (7 : Int32)) - (((own_ush32 q2 (3 : Int32)) &&& (7 : Int32)) / (((q2 &&& (7 : Int32)) - ((q2 &&& (7 : Int32)) / (5 : Int32)) * (5 : Int32)) + (1 : Int32))) * (((q2 &&& (7 : Int32)) - ((q2 &&& (7 : Int32)) / (5 : Int32)) * (5 : Int32)) + (1 : Int32))) ((own_ush32 q2 (7 : Int32)) &&& (3 : Int32)) (q3 &&& (255 : Int32)) Z0 hk0 X0 N0 e0 (own_nr q2) (own_sr _ _ (own_nr q2)))
    rw [own_f0, if_pos hc252]
  · refine own_ifNo X0 hx (hb hby at_35) (pc' := 38) rfl ((if0 _ _).trans (feq hc252).1) ?_
    refine own_iloadN X0 hx (hb hby at_38) (pc' := 39) rfl rfl ?_
    refine own_bipush X0 hx (hb hby at_39) (pc' := 41) rfl (v := (24 : Int32)) rfl ?_
    refine own_bipush X0 hx (hb hby at_41) (pc' := 43) rfl (v := (8 : Int32)) rfl ?_
    refine own_iload X0 hx (hb hby at_43) (pc' := 45) rfl rfl ?_
    refine own_imul X0 hx (hb hby at_45) (pc' := 46) rfl ?_
    refine own_isub X0 hx (hb hby at_46) (pc' := 47) rfl ?_
    refine own_iushr X0 hx (hb hby at_47) (pc' := 48) rfl ?_
    refine own_sipush X0 hx (hb hby at_48) (pc' := 51) rfl (v := (255 : Int32)) rfl ?_
    refine own_iand X0 hx (hb hby at_51) (pc' := 52) rfl ?_
    refine own_goto X0 hx (hb hby at_52) (pc' := 60) (by decide) (by decide) ?_
    refine own_istore X0 hx (hb hby at_60) (pc' := 62) rfl (Ls' := #[.val (.int q1), .val (.int q2), .val (.int q3), .val (.long q4), .second, .val (.int ((q2 &&& (7 : Int32)) - ((q2 &&& (7 : Int32)) / (5 : Int32)) * (5 : Int32))), .val (.int (((own_ush32 q2 (3 : Int32)) &&& (7 : Int32)) - (((own_ush32 q2 (3 : Int32)) &&& (7 : Int32)) / (((q2 &&& (7 : Int32)) - ((q2 &&& (7 : Int32)) / (5 : Int32)) * (5 : Int32)) + (1 : Int32))) * (((q2 &&& (7 : Int32)) - ((q2 &&& (7 : Int32)) / (5 : Int32)) * (5 : Int32)) + (1 : Int32)))), .val (.int ((own_ush32 q2 (7 : Int32)) &&& (3 : Int32))), .val (.int ((own_ush32 q1 ((24 : Int32) - ((8 : Int32) * ((own_ush32 q2 (7 : Int32)) &&& (3 : Int32))))) &&& (255 : Int32))), .unset, .unset, .unset, .unset, .unset, .unset]) rfl ?_
    refine own_cast ?_ (sg0_62 l hw hx hZ hby hml hown hnm hret hlk hS q1 q2 q3 q4 ((q2 &&& (7 : Int32)) - ((q2 &&& (7 : Int32)) / (5 : Int32)) * (5 : Int32)) (((own_ush32 q2 (3 : Int32)) &&& (7 : Int32)) - (((own_ush32 q2 (3 : Int32)) &&& (7 : Int32)) / (((q2 &&& (7 : Int32)) - ((q2 &&& (7 : Int32)) / (5 : Int32)) * (5 : Int32)) + (1 : Int32))) * (((q2 &&& (7 : Int32)) - ((q2 &&& (7 : Int32)) / (5 : Int32)) * (5 : Int32)) + (1 : Int32))) ((own_ush32 q2 (7 : Int32)) &&& (3 : Int32)) ((own_ush32 q1 ((24 : Int32) - ((8 : Int32) * ((own_ush32 q2 (7 : Int32)) &&& (3 : Int32))))) &&& (255 : Int32)) Z0 hk0 X0 N0 e0 (own_nr q2) (own_sr _ _ (own_nr q2)))
    rw [own_f0, if_neg hc252]
theorem ef_0 (m : MethodId) (q1 : Int32) (q2 : Int32) (q3 : Int32) (q4 : Int64) : entryFrame m #[(.int q1), (.int q2), (.int q3), (.long q4)] maxLocals = mkF m 0 #[.val (.int q1), .val (.int q2), .val (.int q3), .val (.long q4), .second, .unset, .unset, .unset, .unset, .unset, .unset, .unset, .unset, .unset, .unset] [] := by first | (simp [entryFrame, mkF, argsToLocals, Value.category, maxLocals]; done) | rfl
set_option maxRecDepth 65536 in
set_option maxHeartbeats 40000000 in
theorem rm0 (l : Launch) (Z : State) (a0 : Array Value) (hw : ∀ d ∈ tables_1, d.before a0 Z = true) (ws : List Jvm.Cond) (q1 : Int32) (q2 : Int32) (q3 : Int32) (q4 : Int64) (h0 : Heap) (n0 : Nat) (Z0 : n0 ≤ h0.size)  (own_law : ∀ (q1 : Int32) (q2 : Int32) (q3 : Int32) (q4 : Int64), (own_f0 q1 q2 q3 q4) = 1) :
    MetFree l x (head1 (Jvm.Cond.code x code maxLocals ret :: ws) room_1) (fun a U => a = #[(.int q1), (.int q2), (.int q3), (.long q4)] ∧ Z.Warmed39 U.vm ∧ U.heap = h0) (fun _ _ _ _ _ => True) (fun _ U o U' => ∃ v L, o = .returned v ∧ (own_L n0 (.int 1)) v U'.heap L ∧ ReturnedEndW U o U' L 4 26) := by
  refine MetFree.of_bodySF (plainFor_of_name pn_0) hisR ?_
  intro p e s m args below meth c s₁ Bd hml0 hP hK
  obtain ⟨rfl, hZ, hh⟩ := hP
  have hown : s.vm.findClass "com/example/typewire/typewire/packet/BitInputBytesBeforePinLaw" = some m.cls := findClass_of_methodNamed Bd.named
  have hnm := (name_of_methodNamed Bd.named Bd.method).1
  have X0 : Stand p l e room_1 s m #[(.int q1), (.int q2), (.int q3), (.long q4)] below meth c s₁ [] 0 0 := Stand.of_body Bd
  have e0 : s₁.heap = h0 := by rw [← hh, Bd.state]; rfl
  have H := sg0_0 l hw Bd.exec hZ Bd.bytes hml0 hown hnm Bd.returns Bd.notSynchronized (s0 := s) (vm0 := s.vm) ((State.WarmedH.refl s).since 0) q1 q2 q3 q4 Z0 (Nat.zero_le _) X0 (Fr.nil n0) e0
  rw [own_law] at H
  obtain ⟨t, h1, h2, o, h3, h4⟩ := H
  exact ⟨t, o, castTop (ef_0 m q1 q2 q3 q4) h1, h2, h3, h4⟩
theorem own_ltl {x : Int64} {c : Int64} {n : Int} (hc : c.toInt = n) : (x < c) ↔ x.toInt < n := by rw [own_lt64, hc]
theorem own_ltE {i k q : Int64} {a b : Int} (hi : i.toInt = a) (hk : k.toInt = b) (hb : 0 ≤ b ∧ b ≤ 4) (hq : q.toInt ≤ 4) : (i < ((k + q) + (1 : Int64))) ↔ a < b + q.toInt + 1 := by
  rw [own_lt64, own_e64 (by omega) hq, hi, hk]
set_option maxHeartbeats 4000000 in
theorem own_k0z0 (x : Int32) (q : Int64) (u1 u2 u3 u4 : Int32) : own_f3s0 x q 0 u1 u2 u3 u4 = own_f4 0 0 x q u1 u2 u3 u4 := by
  have g : ((0 : Int32) - (0 : Int32)).toInt64 = (0 : Int64) := by decide
  have g0 : ((0 : Int32) - (0 : Int32)).toInt64 = (0 : Int64) := by decide
  have g1 : ((1 : Int32) - (0 : Int32)).toInt64 = (1 : Int64) := by decide
  have g2 : ((2 : Int32) - (0 : Int32)).toInt64 = (2 : Int64) := by decide
  have g3 : ((3 : Int32) - (0 : Int32)).toInt64 = (3 : Int64) := by decide
  unfold own_f3s0 own_f4 own_f5i0 own_f5i1 own_f5i2 own_f5i3
  rw [g0, g1, g2, g3]
  try rw [g]
  by_cases h0 : q.toInt < 0
  · have a0 : (q < (0 : Int64)) := by rw [own_ltl (n := 0) (by decide)]; omega
    have a1 : (q < (1 : Int64)) := by rw [own_ltl (n := 1) (by decide)]; omega
    have a2 : (q < (2 : Int64)) := by rw [own_ltl (n := 2) (by decide)]; omega
    have a3 : (q < (3 : Int64)) := by rw [own_ltl (n := 3) (by decide)]; omega
    have e0 : ¬ ((0 : Int64) < (((0 : Int64) + q) + (1 : Int64))) := by rw [own_ltE (a := 0) (b := 0) (by decide) (by decide) (by decide) (by omega)]; omega
    have e1 : ¬ ((1 : Int64) < (((0 : Int64) + q) + (1 : Int64))) := by rw [own_ltE (a := 1) (b := 0) (by decide) (by decide) (by decide) (by omega)]; omega
    have e2 : ¬ ((2 : Int64) < (((0 : Int64) + q) + (1 : Int64))) := by rw [own_ltE (a := 2) (b := 0) (by decide) (by decide) (by decide) (by omega)]; omega
    have e3 : ¬ ((3 : Int64) < (((0 : Int64) + q) + (1 : Int64))) := by rw [own_ltE (a := 3) (b := 0) (by decide) (by decide) (by decide) (by omega)]; omega
    have e4 : ¬ ((4 : Int64) < (((0 : Int64) + q) + (1 : Int64))) := by rw [own_ltE (a := 4) (b := 0) (by decide) (by decide) (by decide) (by omega)]; omega
    simp +decide only [a0, a1, a2, a3, e0, e1, e2, e3, e4, if_true, if_false]
  · skip
    have a0 : ¬ (q < (0 : Int64)) := by rw [own_ltl (n := 0) (by decide)]; omega
    simp +decide only [a0, if_true, if_false]
set_option maxHeartbeats 4000000 in
theorem own_k0z1 (x : Int32) (q : Int64) (u1 u2 u3 u4 : Int32) : own_f3s0 x q 1 u1 u2 u3 u4 = own_f4 1 0 x q u1 u2 u3 u4 := by
  have g : ((1 : Int32) - (0 : Int32)).toInt64 = (1 : Int64) := by decide
  have g0 : ((0 : Int32) - (0 : Int32)).toInt64 = (0 : Int64) := by decide
  have g1 : ((1 : Int32) - (0 : Int32)).toInt64 = (1 : Int64) := by decide
  have g2 : ((2 : Int32) - (0 : Int32)).toInt64 = (2 : Int64) := by decide
  have g3 : ((3 : Int32) - (0 : Int32)).toInt64 = (3 : Int64) := by decide
  unfold own_f3s0 own_f4 own_f5i0 own_f5i1 own_f5i2 own_f5i3
  rw [g0, g1, g2, g3]
  try rw [g]
  by_cases h0 : q.toInt < 0
  · have a0 : (q < (0 : Int64)) := by rw [own_ltl (n := 0) (by decide)]; omega
    have a1 : (q < (1 : Int64)) := by rw [own_ltl (n := 1) (by decide)]; omega
    have a2 : (q < (2 : Int64)) := by rw [own_ltl (n := 2) (by decide)]; omega
    have a3 : (q < (3 : Int64)) := by rw [own_ltl (n := 3) (by decide)]; omega
    have e0 : ¬ ((0 : Int64) < (((0 : Int64) + q) + (1 : Int64))) := by rw [own_ltE (a := 0) (b := 0) (by decide) (by decide) (by decide) (by omega)]; omega
    have e1 : ¬ ((1 : Int64) < (((0 : Int64) + q) + (1 : Int64))) := by rw [own_ltE (a := 1) (b := 0) (by decide) (by decide) (by decide) (by omega)]; omega
    have e2 : ¬ ((2 : Int64) < (((0 : Int64) + q) + (1 : Int64))) := by rw [own_ltE (a := 2) (b := 0) (by decide) (by decide) (by decide) (by omega)]; omega
    have e3 : ¬ ((3 : Int64) < (((0 : Int64) + q) + (1 : Int64))) := by rw [own_ltE (a := 3) (b := 0) (by decide) (by decide) (by decide) (by omega)]; omega
    have e4 : ¬ ((4 : Int64) < (((0 : Int64) + q) + (1 : Int64))) := by rw [own_ltE (a := 4) (b := 0) (by decide) (by decide) (by decide) (by omega)]; omega
    by_cases hb0 : (u1 &&& (255 : Int32)) = x
    · simp +decide only [a0, a1, a2, a3, e0, e1, e2, e3, e4, hb0, if_true, if_false]
    · simp +decide only [a0, a1, a2, a3, e0, e1, e2, e3, e4, hb0, if_true, if_false]
  · skip
    by_cases h1 : q.toInt < 1
    · have a0 : ¬ (q < (0 : Int64)) := by rw [own_ltl (n := 0) (by decide)]; omega
      have a1 : (q < (1 : Int64)) := by rw [own_ltl (n := 1) (by decide)]; omega
      have a2 : (q < (2 : Int64)) := by rw [own_ltl (n := 2) (by decide)]; omega
      have a3 : (q < (3 : Int64)) := by rw [own_ltl (n := 3) (by decide)]; omega
      have e0 : ((0 : Int64) < (((0 : Int64) + q) + (1 : Int64))) := by rw [own_ltE (a := 0) (b := 0) (by decide) (by decide) (by decide) (by omega)]; omega
      have e1 : ¬ ((1 : Int64) < (((0 : Int64) + q) + (1 : Int64))) := by rw [own_ltE (a := 1) (b := 0) (by decide) (by decide) (by decide) (by omega)]; omega
      have e2 : ¬ ((2 : Int64) < (((0 : Int64) + q) + (1 : Int64))) := by rw [own_ltE (a := 2) (b := 0) (by decide) (by decide) (by decide) (by omega)]; omega
      have e3 : ¬ ((3 : Int64) < (((0 : Int64) + q) + (1 : Int64))) := by rw [own_ltE (a := 3) (b := 0) (by decide) (by decide) (by decide) (by omega)]; omega
      have e4 : ¬ ((4 : Int64) < (((0 : Int64) + q) + (1 : Int64))) := by rw [own_ltE (a := 4) (b := 0) (by decide) (by decide) (by decide) (by omega)]; omega
      by_cases hb0 : (u1 &&& (255 : Int32)) = x
      · simp +decide only [a0, a1, a2, a3, e0, e1, e2, e3, e4, hb0, if_true, if_false]
      · simp +decide only [a0, a1, a2, a3, e0, e1, e2, e3, e4, hb0, if_true, if_false]
    · skip
      have a0 : ¬ (q < (0 : Int64)) := by rw [own_ltl (n := 0) (by decide)]; omega
      have a1 : ¬ (q < (1 : Int64)) := by rw [own_ltl (n := 1) (by decide)]; omega
      by_cases hb0 : (u1 &&& (255 : Int32)) = x
      · simp +decide only [a0, a1, hb0, if_true, if_false]
      · simp +decide only [a0, a1, hb0, if_true, if_false]
set_option maxHeartbeats 4000000 in
theorem own_k0z2 (x : Int32) (q : Int64) (u1 u2 u3 u4 : Int32) : own_f3s0 x q 2 u1 u2 u3 u4 = own_f4 2 0 x q u1 u2 u3 u4 := by
  have g : ((2 : Int32) - (0 : Int32)).toInt64 = (2 : Int64) := by decide
  have g0 : ((0 : Int32) - (0 : Int32)).toInt64 = (0 : Int64) := by decide
  have g1 : ((1 : Int32) - (0 : Int32)).toInt64 = (1 : Int64) := by decide
  have g2 : ((2 : Int32) - (0 : Int32)).toInt64 = (2 : Int64) := by decide
  have g3 : ((3 : Int32) - (0 : Int32)).toInt64 = (3 : Int64) := by decide
  unfold own_f3s0 own_f4 own_f5i0 own_f5i1 own_f5i2 own_f5i3
  rw [g0, g1, g2, g3]
  try rw [g]
  by_cases h0 : q.toInt < 0
  · have a0 : (q < (0 : Int64)) := by rw [own_ltl (n := 0) (by decide)]; omega
    have a1 : (q < (1 : Int64)) := by rw [own_ltl (n := 1) (by decide)]; omega
    have a2 : (q < (2 : Int64)) := by rw [own_ltl (n := 2) (by decide)]; omega
    have a3 : (q < (3 : Int64)) := by rw [own_ltl (n := 3) (by decide)]; omega
    have e0 : ¬ ((0 : Int64) < (((0 : Int64) + q) + (1 : Int64))) := by rw [own_ltE (a := 0) (b := 0) (by decide) (by decide) (by decide) (by omega)]; omega
    have e1 : ¬ ((1 : Int64) < (((0 : Int64) + q) + (1 : Int64))) := by rw [own_ltE (a := 1) (b := 0) (by decide) (by decide) (by decide) (by omega)]; omega
    have e2 : ¬ ((2 : Int64) < (((0 : Int64) + q) + (1 : Int64))) := by rw [own_ltE (a := 2) (b := 0) (by decide) (by decide) (by decide) (by omega)]; omega
    have e3 : ¬ ((3 : Int64) < (((0 : Int64) + q) + (1 : Int64))) := by rw [own_ltE (a := 3) (b := 0) (by decide) (by decide) (by decide) (by omega)]; omega
    have e4 : ¬ ((4 : Int64) < (((0 : Int64) + q) + (1 : Int64))) := by rw [own_ltE (a := 4) (b := 0) (by decide) (by decide) (by decide) (by omega)]; omega
    by_cases hb0 : (u1 &&& (255 : Int32)) = x
    · by_cases hb1 : (u2 &&& (255 : Int32)) = x
      · simp +decide only [a0, a1, a2, a3, e0, e1, e2, e3, e4, hb0, hb1, if_true, if_false]
      · simp +decide only [a0, a1, a2, a3, e0, e1, e2, e3, e4, hb0, hb1, if_true, if_false]
    · by_cases hb1 : (u2 &&& (255 : Int32)) = x
      · simp +decide only [a0, a1, a2, a3, e0, e1, e2, e3, e4, hb0, hb1, if_true, if_false]
      · simp +decide only [a0, a1, a2, a3, e0, e1, e2, e3, e4, hb0, hb1, if_true, if_false]
  · skip
    by_cases h1 : q.toInt < 1
    · have a0 : ¬ (q < (0 : Int64)) := by rw [own_ltl (n := 0) (by decide)]; omega
      have a1 : (q < (1 : Int64)) := by rw [own_ltl (n := 1) (by decide)]; omega
      have a2 : (q < (2 : Int64)) := by rw [own_ltl (n := 2) (by decide)]; omega
      have a3 : (q < (3 : Int64)) := by rw [own_ltl (n := 3) (by decide)]; omega
      have e0 : ((0 : Int64) < (((0 : Int64) + q) + (1 : Int64))) := by rw [own_ltE (a := 0) (b := 0) (by decide) (by decide) (by decide) (by omega)]; omega
      have e1 : ¬ ((1 : Int64) < (((0 : Int64) + q) + (1 : Int64))) := by rw [own_ltE (a := 1) (b := 0) (by decide) (by decide) (by decide) (by omega)]; omega
      have e2 : ¬ ((2 : Int64) < (((0 : Int64) + q) + (1 : Int64))) := by rw [own_ltE (a := 2) (b := 0) (by decide) (by decide) (by decide) (by omega)]; omega
      have e3 : ¬ ((3 : Int64) < (((0 : Int64) + q) + (1 : Int64))) := by rw [own_ltE (a := 3) (b := 0) (by decide) (by decide) (by decide) (by omega)]; omega
      have e4 : ¬ ((4 : Int64) < (((0 : Int64) + q) + (1 : Int64))) := by rw [own_ltE (a := 4) (b := 0) (by decide) (by decide) (by decide) (by omega)]; omega
      by_cases hb0 : (u1 &&& (255 : Int32)) = x
      · by_cases hb1 : (u2 &&& (255 : Int32)) = x
        · simp +decide only [a0, a1, a2, a3, e0, e1, e2, e3, e4, hb0, hb1, if_true, if_false]
        · simp +decide only [a0, a1, a2, a3, e0, e1, e2, e3, e4, hb0, hb1, if_true, if_false]
      · by_cases hb1 : (u2 &&& (255 : Int32)) = x
        · simp +decide only [a0, a1, a2, a3, e0, e1, e2, e3, e4, hb0, hb1, if_true, if_false]
        · simp +decide only [a0, a1, a2, a3, e0, e1, e2, e3, e4, hb0, hb1, if_true, if_false]
    · skip
      by_cases h2 : q.toInt < 2
      · have a0 : ¬ (q < (0 : Int64)) := by rw [own_ltl (n := 0) (by decide)]; omega
        have a1 : ¬ (q < (1 : Int64)) := by rw [own_ltl (n := 1) (by decide)]; omega
        have a2 : (q < (2 : Int64)) := by rw [own_ltl (n := 2) (by decide)]; omega
        have a3 : (q < (3 : Int64)) := by rw [own_ltl (n := 3) (by decide)]; omega
        have e0 : ((0 : Int64) < (((0 : Int64) + q) + (1 : Int64))) := by rw [own_ltE (a := 0) (b := 0) (by decide) (by decide) (by decide) (by omega)]; omega
        have e1 : ((1 : Int64) < (((0 : Int64) + q) + (1 : Int64))) := by rw [own_ltE (a := 1) (b := 0) (by decide) (by decide) (by decide) (by omega)]; omega
        have e2 : ¬ ((2 : Int64) < (((0 : Int64) + q) + (1 : Int64))) := by rw [own_ltE (a := 2) (b := 0) (by decide) (by decide) (by decide) (by omega)]; omega
        have e3 : ¬ ((3 : Int64) < (((0 : Int64) + q) + (1 : Int64))) := by rw [own_ltE (a := 3) (b := 0) (by decide) (by decide) (by decide) (by omega)]; omega
        have e4 : ¬ ((4 : Int64) < (((0 : Int64) + q) + (1 : Int64))) := by rw [own_ltE (a := 4) (b := 0) (by decide) (by decide) (by decide) (by omega)]; omega
        by_cases hb0 : (u1 &&& (255 : Int32)) = x
        · by_cases hb1 : (u2 &&& (255 : Int32)) = x
          · simp +decide only [a0, a1, a2, a3, e0, e1, e2, e3, e4, hb0, hb1, if_true, if_false]
          · simp +decide only [a0, a1, a2, a3, e0, e1, e2, e3, e4, hb0, hb1, if_true, if_false]
        · by_cases hb1 : (u2 &&& (255 : Int32)) = x
          · simp +decide only [a0, a1, a2, a3, e0, e1, e2, e3, e4, hb0, hb1, if_true, if_false]
          · simp +decide only [a0, a1, a2, a3, e0, e1, e2, e3, e4, hb0, hb1, if_true, if_false]
      · skip
        have a0 : ¬ (q < (0 : Int64)) := by rw [own_ltl (n := 0) (by decide)]; omega
        have a1 : ¬ (q < (1 : Int64)) := by rw [own_ltl (n := 1) (by decide)]; omega
        have a2 : ¬ (q < (2 : Int64)) := by rw [own_ltl (n := 2) (by decide)]; omega
        by_cases hb0 : (u1 &&& (255 : Int32)) = x
        · by_cases hb1 : (u2 &&& (255 : Int32)) = x
          · simp +decide only [a0, a1, a2, hb0, hb1, if_true, if_false]
          · simp +decide only [a0, a1, a2, hb0, hb1, if_true, if_false]
        · by_cases hb1 : (u2 &&& (255 : Int32)) = x
          · simp +decide only [a0, a1, a2, hb0, hb1, if_true, if_false]
          · simp +decide only [a0, a1, a2, hb0, hb1, if_true, if_false]
set_option maxHeartbeats 4000000 in
theorem own_k0z3 (x : Int32) (q : Int64) (u1 u2 u3 u4 : Int32) : own_f3s0 x q 3 u1 u2 u3 u4 = own_f4 3 0 x q u1 u2 u3 u4 := by
  have g : ((3 : Int32) - (0 : Int32)).toInt64 = (3 : Int64) := by decide
  have g0 : ((0 : Int32) - (0 : Int32)).toInt64 = (0 : Int64) := by decide
  have g1 : ((1 : Int32) - (0 : Int32)).toInt64 = (1 : Int64) := by decide
  have g2 : ((2 : Int32) - (0 : Int32)).toInt64 = (2 : Int64) := by decide
  have g3 : ((3 : Int32) - (0 : Int32)).toInt64 = (3 : Int64) := by decide
  unfold own_f3s0 own_f4 own_f5i0 own_f5i1 own_f5i2 own_f5i3
  rw [g0, g1, g2, g3]
  try rw [g]
  by_cases h0 : q.toInt < 0
  · have a0 : (q < (0 : Int64)) := by rw [own_ltl (n := 0) (by decide)]; omega
    have a1 : (q < (1 : Int64)) := by rw [own_ltl (n := 1) (by decide)]; omega
    have a2 : (q < (2 : Int64)) := by rw [own_ltl (n := 2) (by decide)]; omega
    have a3 : (q < (3 : Int64)) := by rw [own_ltl (n := 3) (by decide)]; omega
    have e0 : ¬ ((0 : Int64) < (((0 : Int64) + q) + (1 : Int64))) := by rw [own_ltE (a := 0) (b := 0) (by decide) (by decide) (by decide) (by omega)]; omega
    have e1 : ¬ ((1 : Int64) < (((0 : Int64) + q) + (1 : Int64))) := by rw [own_ltE (a := 1) (b := 0) (by decide) (by decide) (by decide) (by omega)]; omega
    have e2 : ¬ ((2 : Int64) < (((0 : Int64) + q) + (1 : Int64))) := by rw [own_ltE (a := 2) (b := 0) (by decide) (by decide) (by decide) (by omega)]; omega
    have e3 : ¬ ((3 : Int64) < (((0 : Int64) + q) + (1 : Int64))) := by rw [own_ltE (a := 3) (b := 0) (by decide) (by decide) (by decide) (by omega)]; omega
    have e4 : ¬ ((4 : Int64) < (((0 : Int64) + q) + (1 : Int64))) := by rw [own_ltE (a := 4) (b := 0) (by decide) (by decide) (by decide) (by omega)]; omega
    by_cases hb0 : (u1 &&& (255 : Int32)) = x
    · by_cases hb1 : (u2 &&& (255 : Int32)) = x
      · by_cases hb2 : (u3 &&& (255 : Int32)) = x
        · simp +decide only [a0, a1, a2, a3, e0, e1, e2, e3, e4, hb0, hb1, hb2, if_true, if_false]
        · simp +decide only [a0, a1, a2, a3, e0, e1, e2, e3, e4, hb0, hb1, hb2, if_true, if_false]
      · by_cases hb2 : (u3 &&& (255 : Int32)) = x
        · simp +decide only [a0, a1, a2, a3, e0, e1, e2, e3, e4, hb0, hb1, hb2, if_true, if_false]
        · simp +decide only [a0, a1, a2, a3, e0, e1, e2, e3, e4, hb0, hb1, hb2, if_true, if_false]
    · by_cases hb1 : (u2 &&& (255 : Int32)) = x
      · by_cases hb2 : (u3 &&& (255 : Int32)) = x
        · simp +decide only [a0, a1, a2, a3, e0, e1, e2, e3, e4, hb0, hb1, hb2, if_true, if_false]
        · simp +decide only [a0, a1, a2, a3, e0, e1, e2, e3, e4, hb0, hb1, hb2, if_true, if_false]
      · by_cases hb2 : (u3 &&& (255 : Int32)) = x
        · simp +decide only [a0, a1, a2, a3, e0, e1, e2, e3, e4, hb0, hb1, hb2, if_true, if_false]
        · simp +decide only [a0, a1, a2, a3, e0, e1, e2, e3, e4, hb0, hb1, hb2, if_true, if_false]
  · skip
    by_cases h1 : q.toInt < 1
    · have a0 : ¬ (q < (0 : Int64)) := by rw [own_ltl (n := 0) (by decide)]; omega
      have a1 : (q < (1 : Int64)) := by rw [own_ltl (n := 1) (by decide)]; omega
      have a2 : (q < (2 : Int64)) := by rw [own_ltl (n := 2) (by decide)]; omega
      have a3 : (q < (3 : Int64)) := by rw [own_ltl (n := 3) (by decide)]; omega
      have e0 : ((0 : Int64) < (((0 : Int64) + q) + (1 : Int64))) := by rw [own_ltE (a := 0) (b := 0) (by decide) (by decide) (by decide) (by omega)]; omega
      have e1 : ¬ ((1 : Int64) < (((0 : Int64) + q) + (1 : Int64))) := by rw [own_ltE (a := 1) (b := 0) (by decide) (by decide) (by decide) (by omega)]; omega
      have e2 : ¬ ((2 : Int64) < (((0 : Int64) + q) + (1 : Int64))) := by rw [own_ltE (a := 2) (b := 0) (by decide) (by decide) (by decide) (by omega)]; omega
      have e3 : ¬ ((3 : Int64) < (((0 : Int64) + q) + (1 : Int64))) := by rw [own_ltE (a := 3) (b := 0) (by decide) (by decide) (by decide) (by omega)]; omega
      have e4 : ¬ ((4 : Int64) < (((0 : Int64) + q) + (1 : Int64))) := by rw [own_ltE (a := 4) (b := 0) (by decide) (by decide) (by decide) (by omega)]; omega
      by_cases hb0 : (u1 &&& (255 : Int32)) = x
      · by_cases hb1 : (u2 &&& (255 : Int32)) = x
        · by_cases hb2 : (u3 &&& (255 : Int32)) = x
          · simp +decide only [a0, a1, a2, a3, e0, e1, e2, e3, e4, hb0, hb1, hb2, if_true, if_false]
          · simp +decide only [a0, a1, a2, a3, e0, e1, e2, e3, e4, hb0, hb1, hb2, if_true, if_false]
        · by_cases hb2 : (u3 &&& (255 : Int32)) = x
          · simp +decide only [a0, a1, a2, a3, e0, e1, e2, e3, e4, hb0, hb1, hb2, if_true, if_false]
          · simp +decide only [a0, a1, a2, a3, e0, e1, e2, e3, e4, hb0, hb1, hb2, if_true, if_false]
      · by_cases hb1 : (u2 &&& (255 : Int32)) = x
        · by_cases hb2 : (u3 &&& (255 : Int32)) = x
          · simp +decide only [a0, a1, a2, a3, e0, e1, e2, e3, e4, hb0, hb1, hb2, if_true, if_false]
          · simp +decide only [a0, a1, a2, a3, e0, e1, e2, e3, e4, hb0, hb1, hb2, if_true, if_false]
        · by_cases hb2 : (u3 &&& (255 : Int32)) = x
          · simp +decide only [a0, a1, a2, a3, e0, e1, e2, e3, e4, hb0, hb1, hb2, if_true, if_false]
          · simp +decide only [a0, a1, a2, a3, e0, e1, e2, e3, e4, hb0, hb1, hb2, if_true, if_false]
    · skip
      by_cases h2 : q.toInt < 2
      · have a0 : ¬ (q < (0 : Int64)) := by rw [own_ltl (n := 0) (by decide)]; omega
        have a1 : ¬ (q < (1 : Int64)) := by rw [own_ltl (n := 1) (by decide)]; omega
        have a2 : (q < (2 : Int64)) := by rw [own_ltl (n := 2) (by decide)]; omega
        have a3 : (q < (3 : Int64)) := by rw [own_ltl (n := 3) (by decide)]; omega
        have e0 : ((0 : Int64) < (((0 : Int64) + q) + (1 : Int64))) := by rw [own_ltE (a := 0) (b := 0) (by decide) (by decide) (by decide) (by omega)]; omega
        have e1 : ((1 : Int64) < (((0 : Int64) + q) + (1 : Int64))) := by rw [own_ltE (a := 1) (b := 0) (by decide) (by decide) (by decide) (by omega)]; omega
        have e2 : ¬ ((2 : Int64) < (((0 : Int64) + q) + (1 : Int64))) := by rw [own_ltE (a := 2) (b := 0) (by decide) (by decide) (by decide) (by omega)]; omega
        have e3 : ¬ ((3 : Int64) < (((0 : Int64) + q) + (1 : Int64))) := by rw [own_ltE (a := 3) (b := 0) (by decide) (by decide) (by decide) (by omega)]; omega
        have e4 : ¬ ((4 : Int64) < (((0 : Int64) + q) + (1 : Int64))) := by rw [own_ltE (a := 4) (b := 0) (by decide) (by decide) (by decide) (by omega)]; omega
        by_cases hb0 : (u1 &&& (255 : Int32)) = x
        · by_cases hb1 : (u2 &&& (255 : Int32)) = x
          · by_cases hb2 : (u3 &&& (255 : Int32)) = x
            · simp +decide only [a0, a1, a2, a3, e0, e1, e2, e3, e4, hb0, hb1, hb2, if_true, if_false]
            · simp +decide only [a0, a1, a2, a3, e0, e1, e2, e3, e4, hb0, hb1, hb2, if_true, if_false]
          · by_cases hb2 : (u3 &&& (255 : Int32)) = x
            · simp +decide only [a0, a1, a2, a3, e0, e1, e2, e3, e4, hb0, hb1, hb2, if_true, if_false]
            · simp +decide only [a0, a1, a2, a3, e0, e1, e2, e3, e4, hb0, hb1, hb2, if_true, if_false]
        · by_cases hb1 : (u2 &&& (255 : Int32)) = x
          · by_cases hb2 : (u3 &&& (255 : Int32)) = x
            · simp +decide only [a0, a1, a2, a3, e0, e1, e2, e3, e4, hb0, hb1, hb2, if_true, if_false]
            · simp +decide only [a0, a1, a2, a3, e0, e1, e2, e3, e4, hb0, hb1, hb2, if_true, if_false]
          · by_cases hb2 : (u3 &&& (255 : Int32)) = x
            · simp +decide only [a0, a1, a2, a3, e0, e1, e2, e3, e4, hb0, hb1, hb2, if_true, if_false]
            · simp +decide only [a0, a1, a2, a3, e0, e1, e2, e3, e4, hb0, hb1, hb2, if_true, if_false]
      · skip
        by_cases h3 : q.toInt < 3
        · have a0 : ¬ (q < (0 : Int64)) := by rw [own_ltl (n := 0) (by decide)]; omega
          have a1 : ¬ (q < (1 : Int64)) := by rw [own_ltl (n := 1) (by decide)]; omega
          have a2 : ¬ (q < (2 : Int64)) := by rw [own_ltl (n := 2) (by decide)]; omega
          have a3 : (q < (3 : Int64)) := by rw [own_ltl (n := 3) (by decide)]; omega
          have e0 : ((0 : Int64) < (((0 : Int64) + q) + (1 : Int64))) := by rw [own_ltE (a := 0) (b := 0) (by decide) (by decide) (by decide) (by omega)]; omega
          have e1 : ((1 : Int64) < (((0 : Int64) + q) + (1 : Int64))) := by rw [own_ltE (a := 1) (b := 0) (by decide) (by decide) (by decide) (by omega)]; omega
          have e2 : ((2 : Int64) < (((0 : Int64) + q) + (1 : Int64))) := by rw [own_ltE (a := 2) (b := 0) (by decide) (by decide) (by decide) (by omega)]; omega
          have e3 : ¬ ((3 : Int64) < (((0 : Int64) + q) + (1 : Int64))) := by rw [own_ltE (a := 3) (b := 0) (by decide) (by decide) (by decide) (by omega)]; omega
          have e4 : ¬ ((4 : Int64) < (((0 : Int64) + q) + (1 : Int64))) := by rw [own_ltE (a := 4) (b := 0) (by decide) (by decide) (by decide) (by omega)]; omega
          by_cases hb0 : (u1 &&& (255 : Int32)) = x
          · by_cases hb1 : (u2 &&& (255 : Int32)) = x
            · by_cases hb2 : (u3 &&& (255 : Int32)) = x
              · simp +decide only [a0, a1, a2, a3, e0, e1, e2, e3, e4, hb0, hb1, hb2, if_true, if_false]
              · simp +decide only [a0, a1, a2, a3, e0, e1, e2, e3, e4, hb0, hb1, hb2, if_true, if_false]
            · by_cases hb2 : (u3 &&& (255 : Int32)) = x
              · simp +decide only [a0, a1, a2, a3, e0, e1, e2, e3, e4, hb0, hb1, hb2, if_true, if_false]
              · simp +decide only [a0, a1, a2, a3, e0, e1, e2, e3, e4, hb0, hb1, hb2, if_true, if_false]
          · by_cases hb1 : (u2 &&& (255 : Int32)) = x
            · by_cases hb2 : (u3 &&& (255 : Int32)) = x
              · simp +decide only [a0, a1, a2, a3, e0, e1, e2, e3, e4, hb0, hb1, hb2, if_true, if_false]
              · simp +decide only [a0, a1, a2, a3, e0, e1, e2, e3, e4, hb0, hb1, hb2, if_true, if_false]
            · by_cases hb2 : (u3 &&& (255 : Int32)) = x
              · simp +decide only [a0, a1, a2, a3, e0, e1, e2, e3, e4, hb0, hb1, hb2, if_true, if_false]
              · simp +decide only [a0, a1, a2, a3, e0, e1, e2, e3, e4, hb0, hb1, hb2, if_true, if_false]
        · skip
          have a0 : ¬ (q < (0 : Int64)) := by rw [own_ltl (n := 0) (by decide)]; omega
          have a1 : ¬ (q < (1 : Int64)) := by rw [own_ltl (n := 1) (by decide)]; omega
          have a2 : ¬ (q < (2 : Int64)) := by rw [own_ltl (n := 2) (by decide)]; omega
          have a3 : ¬ (q < (3 : Int64)) := by rw [own_ltl (n := 3) (by decide)]; omega
          by_cases hb0 : (u1 &&& (255 : Int32)) = x
          · by_cases hb1 : (u2 &&& (255 : Int32)) = x
            · by_cases hb2 : (u3 &&& (255 : Int32)) = x
              · simp +decide only [a0, a1, a2, a3, hb0, hb1, hb2, if_true, if_false]
              · simp +decide only [a0, a1, a2, a3, hb0, hb1, hb2, if_true, if_false]
            · by_cases hb2 : (u3 &&& (255 : Int32)) = x
              · simp +decide only [a0, a1, a2, a3, hb0, hb1, hb2, if_true, if_false]
              · simp +decide only [a0, a1, a2, a3, hb0, hb1, hb2, if_true, if_false]
          · by_cases hb1 : (u2 &&& (255 : Int32)) = x
            · by_cases hb2 : (u3 &&& (255 : Int32)) = x
              · simp +decide only [a0, a1, a2, a3, hb0, hb1, hb2, if_true, if_false]
              · simp +decide only [a0, a1, a2, a3, hb0, hb1, hb2, if_true, if_false]
            · by_cases hb2 : (u3 &&& (255 : Int32)) = x
              · simp +decide only [a0, a1, a2, a3, hb0, hb1, hb2, if_true, if_false]
              · simp +decide only [a0, a1, a2, a3, hb0, hb1, hb2, if_true, if_false]
set_option maxHeartbeats 4000000 in
theorem own_k0z4 (x : Int32) (q : Int64) (u1 u2 u3 u4 : Int32) : own_f3s0 x q 4 u1 u2 u3 u4 = own_f4 4 0 x q u1 u2 u3 u4 := by
  have g : ((4 : Int32) - (0 : Int32)).toInt64 = (4 : Int64) := by decide
  have g0 : ((0 : Int32) - (0 : Int32)).toInt64 = (0 : Int64) := by decide
  have g1 : ((1 : Int32) - (0 : Int32)).toInt64 = (1 : Int64) := by decide
  have g2 : ((2 : Int32) - (0 : Int32)).toInt64 = (2 : Int64) := by decide
  have g3 : ((3 : Int32) - (0 : Int32)).toInt64 = (3 : Int64) := by decide
  unfold own_f3s0 own_f4 own_f5i0 own_f5i1 own_f5i2 own_f5i3
  rw [g0, g1, g2, g3]
  try rw [g]
  by_cases h0 : q.toInt < 0
  · have a0 : (q < (0 : Int64)) := by rw [own_ltl (n := 0) (by decide)]; omega
    have a1 : (q < (1 : Int64)) := by rw [own_ltl (n := 1) (by decide)]; omega
    have a2 : (q < (2 : Int64)) := by rw [own_ltl (n := 2) (by decide)]; omega
    have a3 : (q < (3 : Int64)) := by rw [own_ltl (n := 3) (by decide)]; omega
    have a4 : (q < (4 : Int64)) := by rw [own_ltl (n := 4) (by decide)]; omega
    have e0 : ¬ ((0 : Int64) < (((0 : Int64) + q) + (1 : Int64))) := by rw [own_ltE (a := 0) (b := 0) (by decide) (by decide) (by decide) (by omega)]; omega
    have e1 : ¬ ((1 : Int64) < (((0 : Int64) + q) + (1 : Int64))) := by rw [own_ltE (a := 1) (b := 0) (by decide) (by decide) (by decide) (by omega)]; omega
    have e2 : ¬ ((2 : Int64) < (((0 : Int64) + q) + (1 : Int64))) := by rw [own_ltE (a := 2) (b := 0) (by decide) (by decide) (by decide) (by omega)]; omega
    have e3 : ¬ ((3 : Int64) < (((0 : Int64) + q) + (1 : Int64))) := by rw [own_ltE (a := 3) (b := 0) (by decide) (by decide) (by decide) (by omega)]; omega
    have e4 : ¬ ((4 : Int64) < (((0 : Int64) + q) + (1 : Int64))) := by rw [own_ltE (a := 4) (b := 0) (by decide) (by decide) (by decide) (by omega)]; omega
    by_cases hb0 : (u1 &&& (255 : Int32)) = x
    · by_cases hb1 : (u2 &&& (255 : Int32)) = x
      · by_cases hb2 : (u3 &&& (255 : Int32)) = x
        · by_cases hb3 : (u4 &&& (255 : Int32)) = x
          · simp +decide only [a0, a1, a2, a3, a4, e0, e1, e2, e3, e4, hb0, hb1, hb2, hb3, if_true, if_false]
          · simp +decide only [a0, a1, a2, a3, a4, e0, e1, e2, e3, e4, hb0, hb1, hb2, hb3, if_true, if_false]
        · by_cases hb3 : (u4 &&& (255 : Int32)) = x
          · simp +decide only [a0, a1, a2, a3, a4, e0, e1, e2, e3, e4, hb0, hb1, hb2, hb3, if_true, if_false]
          · simp +decide only [a0, a1, a2, a3, a4, e0, e1, e2, e3, e4, hb0, hb1, hb2, hb3, if_true, if_false]
      · by_cases hb2 : (u3 &&& (255 : Int32)) = x
        · by_cases hb3 : (u4 &&& (255 : Int32)) = x
          · simp +decide only [a0, a1, a2, a3, a4, e0, e1, e2, e3, e4, hb0, hb1, hb2, hb3, if_true, if_false]
          · simp +decide only [a0, a1, a2, a3, a4, e0, e1, e2, e3, e4, hb0, hb1, hb2, hb3, if_true, if_false]
        · by_cases hb3 : (u4 &&& (255 : Int32)) = x
          · simp +decide only [a0, a1, a2, a3, a4, e0, e1, e2, e3, e4, hb0, hb1, hb2, hb3, if_true, if_false]
          · simp +decide only [a0, a1, a2, a3, a4, e0, e1, e2, e3, e4, hb0, hb1, hb2, hb3, if_true, if_false]
    · by_cases hb1 : (u2 &&& (255 : Int32)) = x
      · by_cases hb2 : (u3 &&& (255 : Int32)) = x
        · by_cases hb3 : (u4 &&& (255 : Int32)) = x
          · simp +decide only [a0, a1, a2, a3, a4, e0, e1, e2, e3, e4, hb0, hb1, hb2, hb3, if_true, if_false]
          · simp +decide only [a0, a1, a2, a3, a4, e0, e1, e2, e3, e4, hb0, hb1, hb2, hb3, if_true, if_false]
        · by_cases hb3 : (u4 &&& (255 : Int32)) = x
          · simp +decide only [a0, a1, a2, a3, a4, e0, e1, e2, e3, e4, hb0, hb1, hb2, hb3, if_true, if_false]
          · simp +decide only [a0, a1, a2, a3, a4, e0, e1, e2, e3, e4, hb0, hb1, hb2, hb3, if_true, if_false]
      · by_cases hb2 : (u3 &&& (255 : Int32)) = x
        · by_cases hb3 : (u4 &&& (255 : Int32)) = x
          · simp +decide only [a0, a1, a2, a3, a4, e0, e1, e2, e3, e4, hb0, hb1, hb2, hb3, if_true, if_false]
          · simp +decide only [a0, a1, a2, a3, a4, e0, e1, e2, e3, e4, hb0, hb1, hb2, hb3, if_true, if_false]
        · by_cases hb3 : (u4 &&& (255 : Int32)) = x
          · simp +decide only [a0, a1, a2, a3, a4, e0, e1, e2, e3, e4, hb0, hb1, hb2, hb3, if_true, if_false]
          · simp +decide only [a0, a1, a2, a3, a4, e0, e1, e2, e3, e4, hb0, hb1, hb2, hb3, if_true, if_false]
  · skip
    by_cases h1 : q.toInt < 1
    · have a0 : ¬ (q < (0 : Int64)) := by rw [own_ltl (n := 0) (by decide)]; omega
      have a1 : (q < (1 : Int64)) := by rw [own_ltl (n := 1) (by decide)]; omega
      have a2 : (q < (2 : Int64)) := by rw [own_ltl (n := 2) (by decide)]; omega
      have a3 : (q < (3 : Int64)) := by rw [own_ltl (n := 3) (by decide)]; omega
      have a4 : (q < (4 : Int64)) := by rw [own_ltl (n := 4) (by decide)]; omega
      have e0 : ((0 : Int64) < (((0 : Int64) + q) + (1 : Int64))) := by rw [own_ltE (a := 0) (b := 0) (by decide) (by decide) (by decide) (by omega)]; omega
      have e1 : ¬ ((1 : Int64) < (((0 : Int64) + q) + (1 : Int64))) := by rw [own_ltE (a := 1) (b := 0) (by decide) (by decide) (by decide) (by omega)]; omega
      have e2 : ¬ ((2 : Int64) < (((0 : Int64) + q) + (1 : Int64))) := by rw [own_ltE (a := 2) (b := 0) (by decide) (by decide) (by decide) (by omega)]; omega
      have e3 : ¬ ((3 : Int64) < (((0 : Int64) + q) + (1 : Int64))) := by rw [own_ltE (a := 3) (b := 0) (by decide) (by decide) (by decide) (by omega)]; omega
      have e4 : ¬ ((4 : Int64) < (((0 : Int64) + q) + (1 : Int64))) := by rw [own_ltE (a := 4) (b := 0) (by decide) (by decide) (by decide) (by omega)]; omega
      by_cases hb0 : (u1 &&& (255 : Int32)) = x
      · by_cases hb1 : (u2 &&& (255 : Int32)) = x
        · by_cases hb2 : (u3 &&& (255 : Int32)) = x
          · by_cases hb3 : (u4 &&& (255 : Int32)) = x
            · simp +decide only [a0, a1, a2, a3, a4, e0, e1, e2, e3, e4, hb0, hb1, hb2, hb3, if_true, if_false]
            · simp +decide only [a0, a1, a2, a3, a4, e0, e1, e2, e3, e4, hb0, hb1, hb2, hb3, if_true, if_false]
          · by_cases hb3 : (u4 &&& (255 : Int32)) = x
            · simp +decide only [a0, a1, a2, a3, a4, e0, e1, e2, e3, e4, hb0, hb1, hb2, hb3, if_true, if_false]
            · simp +decide only [a0, a1, a2, a3, a4, e0, e1, e2, e3, e4, hb0, hb1, hb2, hb3, if_true, if_false]
        · by_cases hb2 : (u3 &&& (255 : Int32)) = x
          · by_cases hb3 : (u4 &&& (255 : Int32)) = x
            · simp +decide only [a0, a1, a2, a3, a4, e0, e1, e2, e3, e4, hb0, hb1, hb2, hb3, if_true, if_false]
            · simp +decide only [a0, a1, a2, a3, a4, e0, e1, e2, e3, e4, hb0, hb1, hb2, hb3, if_true, if_false]
          · by_cases hb3 : (u4 &&& (255 : Int32)) = x
            · simp +decide only [a0, a1, a2, a3, a4, e0, e1, e2, e3, e4, hb0, hb1, hb2, hb3, if_true, if_false]
            · simp +decide only [a0, a1, a2, a3, a4, e0, e1, e2, e3, e4, hb0, hb1, hb2, hb3, if_true, if_false]
      · by_cases hb1 : (u2 &&& (255 : Int32)) = x
        · by_cases hb2 : (u3 &&& (255 : Int32)) = x
          · by_cases hb3 : (u4 &&& (255 : Int32)) = x
            · simp +decide only [a0, a1, a2, a3, a4, e0, e1, e2, e3, e4, hb0, hb1, hb2, hb3, if_true, if_false]
            · simp +decide only [a0, a1, a2, a3, a4, e0, e1, e2, e3, e4, hb0, hb1, hb2, hb3, if_true, if_false]
          · by_cases hb3 : (u4 &&& (255 : Int32)) = x
            · simp +decide only [a0, a1, a2, a3, a4, e0, e1, e2, e3, e4, hb0, hb1, hb2, hb3, if_true, if_false]
            · simp +decide only [a0, a1, a2, a3, a4, e0, e1, e2, e3, e4, hb0, hb1, hb2, hb3, if_true, if_false]
        · by_cases hb2 : (u3 &&& (255 : Int32)) = x
          · by_cases hb3 : (u4 &&& (255 : Int32)) = x
            · simp +decide only [a0, a1, a2, a3, a4, e0, e1, e2, e3, e4, hb0, hb1, hb2, hb3, if_true, if_false]
            · simp +decide only [a0, a1, a2, a3, a4, e0, e1, e2, e3, e4, hb0, hb1, hb2, hb3, if_true, if_false]
          · by_cases hb3 : (u4 &&& (255 : Int32)) = x
            · simp +decide only [a0, a1, a2, a3, a4, e0, e1, e2, e3, e4, hb0, hb1, hb2, hb3, if_true, if_false]
            · simp +decide only [a0, a1, a2, a3, a4, e0, e1, e2, e3, e4, hb0, hb1, hb2, hb3, if_true, if_false]
    · skip
      by_cases h2 : q.toInt < 2
      · have a0 : ¬ (q < (0 : Int64)) := by rw [own_ltl (n := 0) (by decide)]; omega
        have a1 : ¬ (q < (1 : Int64)) := by rw [own_ltl (n := 1) (by decide)]; omega
        have a2 : (q < (2 : Int64)) := by rw [own_ltl (n := 2) (by decide)]; omega
        have a3 : (q < (3 : Int64)) := by rw [own_ltl (n := 3) (by decide)]; omega
        have a4 : (q < (4 : Int64)) := by rw [own_ltl (n := 4) (by decide)]; omega
        have e0 : ((0 : Int64) < (((0 : Int64) + q) + (1 : Int64))) := by rw [own_ltE (a := 0) (b := 0) (by decide) (by decide) (by decide) (by omega)]; omega
        have e1 : ((1 : Int64) < (((0 : Int64) + q) + (1 : Int64))) := by rw [own_ltE (a := 1) (b := 0) (by decide) (by decide) (by decide) (by omega)]; omega
        have e2 : ¬ ((2 : Int64) < (((0 : Int64) + q) + (1 : Int64))) := by rw [own_ltE (a := 2) (b := 0) (by decide) (by decide) (by decide) (by omega)]; omega
        have e3 : ¬ ((3 : Int64) < (((0 : Int64) + q) + (1 : Int64))) := by rw [own_ltE (a := 3) (b := 0) (by decide) (by decide) (by decide) (by omega)]; omega
        have e4 : ¬ ((4 : Int64) < (((0 : Int64) + q) + (1 : Int64))) := by rw [own_ltE (a := 4) (b := 0) (by decide) (by decide) (by decide) (by omega)]; omega
        by_cases hb0 : (u1 &&& (255 : Int32)) = x
        · by_cases hb1 : (u2 &&& (255 : Int32)) = x
          · by_cases hb2 : (u3 &&& (255 : Int32)) = x
            · by_cases hb3 : (u4 &&& (255 : Int32)) = x
              · simp +decide only [a0, a1, a2, a3, a4, e0, e1, e2, e3, e4, hb0, hb1, hb2, hb3, if_true, if_false]
              · simp +decide only [a0, a1, a2, a3, a4, e0, e1, e2, e3, e4, hb0, hb1, hb2, hb3, if_true, if_false]
            · by_cases hb3 : (u4 &&& (255 : Int32)) = x
              · simp +decide only [a0, a1, a2, a3, a4, e0, e1, e2, e3, e4, hb0, hb1, hb2, hb3, if_true, if_false]
              · simp +decide only [a0, a1, a2, a3, a4, e0, e1, e2, e3, e4, hb0, hb1, hb2, hb3, if_true, if_false]
          · by_cases hb2 : (u3 &&& (255 : Int32)) = x
            · by_cases hb3 : (u4 &&& (255 : Int32)) = x
              · simp +decide only [a0, a1, a2, a3, a4, e0, e1, e2, e3, e4, hb0, hb1, hb2, hb3, if_true, if_false]
              · simp +decide only [a0, a1, a2, a3, a4, e0, e1, e2, e3, e4, hb0, hb1, hb2, hb3, if_true, if_false]
            · by_cases hb3 : (u4 &&& (255 : Int32)) = x
              · simp +decide only [a0, a1, a2, a3, a4, e0, e1, e2, e3, e4, hb0, hb1, hb2, hb3, if_true, if_false]
              · simp +decide only [a0, a1, a2, a3, a4, e0, e1, e2, e3, e4, hb0, hb1, hb2, hb3, if_true, if_false]
        · by_cases hb1 : (u2 &&& (255 : Int32)) = x
          · by_cases hb2 : (u3 &&& (255 : Int32)) = x
            · by_cases hb3 : (u4 &&& (255 : Int32)) = x
              · simp +decide only [a0, a1, a2, a3, a4, e0, e1, e2, e3, e4, hb0, hb1, hb2, hb3, if_true, if_false]
              · simp +decide only [a0, a1, a2, a3, a4, e0, e1, e2, e3, e4, hb0, hb1, hb2, hb3, if_true, if_false]
            · by_cases hb3 : (u4 &&& (255 : Int32)) = x
              · simp +decide only [a0, a1, a2, a3, a4, e0, e1, e2, e3, e4, hb0, hb1, hb2, hb3, if_true, if_false]
              · simp +decide only [a0, a1, a2, a3, a4, e0, e1, e2, e3, e4, hb0, hb1, hb2, hb3, if_true, if_false]
          · by_cases hb2 : (u3 &&& (255 : Int32)) = x
            · by_cases hb3 : (u4 &&& (255 : Int32)) = x
              · simp +decide only [a0, a1, a2, a3, a4, e0, e1, e2, e3, e4, hb0, hb1, hb2, hb3, if_true, if_false]
              · simp +decide only [a0, a1, a2, a3, a4, e0, e1, e2, e3, e4, hb0, hb1, hb2, hb3, if_true, if_false]
            · by_cases hb3 : (u4 &&& (255 : Int32)) = x
              · simp +decide only [a0, a1, a2, a3, a4, e0, e1, e2, e3, e4, hb0, hb1, hb2, hb3, if_true, if_false]
              · simp +decide only [a0, a1, a2, a3, a4, e0, e1, e2, e3, e4, hb0, hb1, hb2, hb3, if_true, if_false]
      · skip
        by_cases h3 : q.toInt < 3
        · have a0 : ¬ (q < (0 : Int64)) := by rw [own_ltl (n := 0) (by decide)]; omega
          have a1 : ¬ (q < (1 : Int64)) := by rw [own_ltl (n := 1) (by decide)]; omega
          have a2 : ¬ (q < (2 : Int64)) := by rw [own_ltl (n := 2) (by decide)]; omega
          have a3 : (q < (3 : Int64)) := by rw [own_ltl (n := 3) (by decide)]; omega
          have a4 : (q < (4 : Int64)) := by rw [own_ltl (n := 4) (by decide)]; omega
          have e0 : ((0 : Int64) < (((0 : Int64) + q) + (1 : Int64))) := by rw [own_ltE (a := 0) (b := 0) (by decide) (by decide) (by decide) (by omega)]; omega
          have e1 : ((1 : Int64) < (((0 : Int64) + q) + (1 : Int64))) := by rw [own_ltE (a := 1) (b := 0) (by decide) (by decide) (by decide) (by omega)]; omega
          have e2 : ((2 : Int64) < (((0 : Int64) + q) + (1 : Int64))) := by rw [own_ltE (a := 2) (b := 0) (by decide) (by decide) (by decide) (by omega)]; omega
          have e3 : ¬ ((3 : Int64) < (((0 : Int64) + q) + (1 : Int64))) := by rw [own_ltE (a := 3) (b := 0) (by decide) (by decide) (by decide) (by omega)]; omega
          have e4 : ¬ ((4 : Int64) < (((0 : Int64) + q) + (1 : Int64))) := by rw [own_ltE (a := 4) (b := 0) (by decide) (by decide) (by decide) (by omega)]; omega
          by_cases hb0 : (u1 &&& (255 : Int32)) = x
          · by_cases hb1 : (u2 &&& (255 : Int32)) = x
            · by_cases hb2 : (u3 &&& (255 : Int32)) = x
              · by_cases hb3 : (u4 &&& (255 : Int32)) = x
                · simp +decide only [a0, a1, a2, a3, a4, e0, e1, e2, e3, e4, hb0, hb1, hb2, hb3, if_true, if_false]
                · simp +decide only [a0, a1, a2, a3, a4, e0, e1, e2, e3, e4, hb0, hb1, hb2, hb3, if_true, if_false]
              · by_cases hb3 : (u4 &&& (255 : Int32)) = x
                · simp +decide only [a0, a1, a2, a3, a4, e0, e1, e2, e3, e4, hb0, hb1, hb2, hb3, if_true, if_false]
                · simp +decide only [a0, a1, a2, a3, a4, e0, e1, e2, e3, e4, hb0, hb1, hb2, hb3, if_true, if_false]
            · by_cases hb2 : (u3 &&& (255 : Int32)) = x
              · by_cases hb3 : (u4 &&& (255 : Int32)) = x
                · simp +decide only [a0, a1, a2, a3, a4, e0, e1, e2, e3, e4, hb0, hb1, hb2, hb3, if_true, if_false]
                · simp +decide only [a0, a1, a2, a3, a4, e0, e1, e2, e3, e4, hb0, hb1, hb2, hb3, if_true, if_false]
              · by_cases hb3 : (u4 &&& (255 : Int32)) = x
                · simp +decide only [a0, a1, a2, a3, a4, e0, e1, e2, e3, e4, hb0, hb1, hb2, hb3, if_true, if_false]
                · simp +decide only [a0, a1, a2, a3, a4, e0, e1, e2, e3, e4, hb0, hb1, hb2, hb3, if_true, if_false]
          · by_cases hb1 : (u2 &&& (255 : Int32)) = x
            · by_cases hb2 : (u3 &&& (255 : Int32)) = x
              · by_cases hb3 : (u4 &&& (255 : Int32)) = x
                · simp +decide only [a0, a1, a2, a3, a4, e0, e1, e2, e3, e4, hb0, hb1, hb2, hb3, if_true, if_false]
                · simp +decide only [a0, a1, a2, a3, a4, e0, e1, e2, e3, e4, hb0, hb1, hb2, hb3, if_true, if_false]
              · by_cases hb3 : (u4 &&& (255 : Int32)) = x
                · simp +decide only [a0, a1, a2, a3, a4, e0, e1, e2, e3, e4, hb0, hb1, hb2, hb3, if_true, if_false]
                · simp +decide only [a0, a1, a2, a3, a4, e0, e1, e2, e3, e4, hb0, hb1, hb2, hb3, if_true, if_false]
            · by_cases hb2 : (u3 &&& (255 : Int32)) = x
              · by_cases hb3 : (u4 &&& (255 : Int32)) = x
                · simp +decide only [a0, a1, a2, a3, a4, e0, e1, e2, e3, e4, hb0, hb1, hb2, hb3, if_true, if_false]
                · simp +decide only [a0, a1, a2, a3, a4, e0, e1, e2, e3, e4, hb0, hb1, hb2, hb3, if_true, if_false]
              · by_cases hb3 : (u4 &&& (255 : Int32)) = x
                · simp +decide only [a0, a1, a2, a3, a4, e0, e1, e2, e3, e4, hb0, hb1, hb2, hb3, if_true, if_false]
                · simp +decide only [a0, a1, a2, a3, a4, e0, e1, e2, e3, e4, hb0, hb1, hb2, hb3, if_true, if_false]
        · skip
          by_cases h4 : q.toInt < 4
          · have a0 : ¬ (q < (0 : Int64)) := by rw [own_ltl (n := 0) (by decide)]; omega
            have a1 : ¬ (q < (1 : Int64)) := by rw [own_ltl (n := 1) (by decide)]; omega
            have a2 : ¬ (q < (2 : Int64)) := by rw [own_ltl (n := 2) (by decide)]; omega
            have a3 : ¬ (q < (3 : Int64)) := by rw [own_ltl (n := 3) (by decide)]; omega
            have a4 : (q < (4 : Int64)) := by rw [own_ltl (n := 4) (by decide)]; omega
            have e0 : ((0 : Int64) < (((0 : Int64) + q) + (1 : Int64))) := by rw [own_ltE (a := 0) (b := 0) (by decide) (by decide) (by decide) (by omega)]; omega
            have e1 : ((1 : Int64) < (((0 : Int64) + q) + (1 : Int64))) := by rw [own_ltE (a := 1) (b := 0) (by decide) (by decide) (by decide) (by omega)]; omega
            have e2 : ((2 : Int64) < (((0 : Int64) + q) + (1 : Int64))) := by rw [own_ltE (a := 2) (b := 0) (by decide) (by decide) (by decide) (by omega)]; omega
            have e3 : ((3 : Int64) < (((0 : Int64) + q) + (1 : Int64))) := by rw [own_ltE (a := 3) (b := 0) (by decide) (by decide) (by decide) (by omega)]; omega
            have e4 : ¬ ((4 : Int64) < (((0 : Int64) + q) + (1 : Int64))) := by rw [own_ltE (a := 4) (b := 0) (by decide) (by decide) (by decide) (by omega)]; omega
            by_cases hb0 : (u1 &&& (255 : Int32)) = x
            · by_cases hb1 : (u2 &&& (255 : Int32)) = x
              · by_cases hb2 : (u3 &&& (255 : Int32)) = x
                · by_cases hb3 : (u4 &&& (255 : Int32)) = x
                  · simp +decide only [a0, a1, a2, a3, a4, e0, e1, e2, e3, e4, hb0, hb1, hb2, hb3, if_true, if_false]
                  · simp +decide only [a0, a1, a2, a3, a4, e0, e1, e2, e3, e4, hb0, hb1, hb2, hb3, if_true, if_false]
                · by_cases hb3 : (u4 &&& (255 : Int32)) = x
                  · simp +decide only [a0, a1, a2, a3, a4, e0, e1, e2, e3, e4, hb0, hb1, hb2, hb3, if_true, if_false]
                  · simp +decide only [a0, a1, a2, a3, a4, e0, e1, e2, e3, e4, hb0, hb1, hb2, hb3, if_true, if_false]
              · by_cases hb2 : (u3 &&& (255 : Int32)) = x
                · by_cases hb3 : (u4 &&& (255 : Int32)) = x
                  · simp +decide only [a0, a1, a2, a3, a4, e0, e1, e2, e3, e4, hb0, hb1, hb2, hb3, if_true, if_false]
                  · simp +decide only [a0, a1, a2, a3, a4, e0, e1, e2, e3, e4, hb0, hb1, hb2, hb3, if_true, if_false]
                · by_cases hb3 : (u4 &&& (255 : Int32)) = x
                  · simp +decide only [a0, a1, a2, a3, a4, e0, e1, e2, e3, e4, hb0, hb1, hb2, hb3, if_true, if_false]
                  · simp +decide only [a0, a1, a2, a3, a4, e0, e1, e2, e3, e4, hb0, hb1, hb2, hb3, if_true, if_false]
            · by_cases hb1 : (u2 &&& (255 : Int32)) = x
              · by_cases hb2 : (u3 &&& (255 : Int32)) = x
                · by_cases hb3 : (u4 &&& (255 : Int32)) = x
                  · simp +decide only [a0, a1, a2, a3, a4, e0, e1, e2, e3, e4, hb0, hb1, hb2, hb3, if_true, if_false]
                  · simp +decide only [a0, a1, a2, a3, a4, e0, e1, e2, e3, e4, hb0, hb1, hb2, hb3, if_true, if_false]
                · by_cases hb3 : (u4 &&& (255 : Int32)) = x
                  · simp +decide only [a0, a1, a2, a3, a4, e0, e1, e2, e3, e4, hb0, hb1, hb2, hb3, if_true, if_false]
                  · simp +decide only [a0, a1, a2, a3, a4, e0, e1, e2, e3, e4, hb0, hb1, hb2, hb3, if_true, if_false]
              · by_cases hb2 : (u3 &&& (255 : Int32)) = x
                · by_cases hb3 : (u4 &&& (255 : Int32)) = x
                  · simp +decide only [a0, a1, a2, a3, a4, e0, e1, e2, e3, e4, hb0, hb1, hb2, hb3, if_true, if_false]
                  · simp +decide only [a0, a1, a2, a3, a4, e0, e1, e2, e3, e4, hb0, hb1, hb2, hb3, if_true, if_false]
                · by_cases hb3 : (u4 &&& (255 : Int32)) = x
                  · simp +decide only [a0, a1, a2, a3, a4, e0, e1, e2, e3, e4, hb0, hb1, hb2, hb3, if_true, if_false]
                  · simp +decide only [a0, a1, a2, a3, a4, e0, e1, e2, e3, e4, hb0, hb1, hb2, hb3, if_true, if_false]
          · skip
            have a0 : ¬ (q < (0 : Int64)) := by rw [own_ltl (n := 0) (by decide)]; omega
            have a1 : ¬ (q < (1 : Int64)) := by rw [own_ltl (n := 1) (by decide)]; omega
            have a2 : ¬ (q < (2 : Int64)) := by rw [own_ltl (n := 2) (by decide)]; omega
            have a3 : ¬ (q < (3 : Int64)) := by rw [own_ltl (n := 3) (by decide)]; omega
            have a4 : ¬ (q < (4 : Int64)) := by rw [own_ltl (n := 4) (by decide)]; omega
            by_cases hb0 : (u1 &&& (255 : Int32)) = x
            · by_cases hb1 : (u2 &&& (255 : Int32)) = x
              · by_cases hb2 : (u3 &&& (255 : Int32)) = x
                · by_cases hb3 : (u4 &&& (255 : Int32)) = x
                  · simp +decide only [a0, a1, a2, a3, a4, hb0, hb1, hb2, hb3, if_true, if_false]
                  · simp +decide only [a0, a1, a2, a3, a4, hb0, hb1, hb2, hb3, if_true, if_false]
                · by_cases hb3 : (u4 &&& (255 : Int32)) = x
                  · simp +decide only [a0, a1, a2, a3, a4, hb0, hb1, hb2, hb3, if_true, if_false]
                  · simp +decide only [a0, a1, a2, a3, a4, hb0, hb1, hb2, hb3, if_true, if_false]
              · by_cases hb2 : (u3 &&& (255 : Int32)) = x
                · by_cases hb3 : (u4 &&& (255 : Int32)) = x
                  · simp +decide only [a0, a1, a2, a3, a4, hb0, hb1, hb2, hb3, if_true, if_false]
                  · simp +decide only [a0, a1, a2, a3, a4, hb0, hb1, hb2, hb3, if_true, if_false]
                · by_cases hb3 : (u4 &&& (255 : Int32)) = x
                  · simp +decide only [a0, a1, a2, a3, a4, hb0, hb1, hb2, hb3, if_true, if_false]
                  · simp +decide only [a0, a1, a2, a3, a4, hb0, hb1, hb2, hb3, if_true, if_false]
            · by_cases hb1 : (u2 &&& (255 : Int32)) = x
              · by_cases hb2 : (u3 &&& (255 : Int32)) = x
                · by_cases hb3 : (u4 &&& (255 : Int32)) = x
                  · simp +decide only [a0, a1, a2, a3, a4, hb0, hb1, hb2, hb3, if_true, if_false]
                  · simp +decide only [a0, a1, a2, a3, a4, hb0, hb1, hb2, hb3, if_true, if_false]
                · by_cases hb3 : (u4 &&& (255 : Int32)) = x
                  · simp +decide only [a0, a1, a2, a3, a4, hb0, hb1, hb2, hb3, if_true, if_false]
                  · simp +decide only [a0, a1, a2, a3, a4, hb0, hb1, hb2, hb3, if_true, if_false]
              · by_cases hb2 : (u3 &&& (255 : Int32)) = x
                · by_cases hb3 : (u4 &&& (255 : Int32)) = x
                  · simp +decide only [a0, a1, a2, a3, a4, hb0, hb1, hb2, hb3, if_true, if_false]
                  · simp +decide only [a0, a1, a2, a3, a4, hb0, hb1, hb2, hb3, if_true, if_false]
                · by_cases hb3 : (u4 &&& (255 : Int32)) = x
                  · simp +decide only [a0, a1, a2, a3, a4, hb0, hb1, hb2, hb3, if_true, if_false]
                  · simp +decide only [a0, a1, a2, a3, a4, hb0, hb1, hb2, hb3, if_true, if_false]
set_option maxHeartbeats 4000000 in
theorem own_k1z1 (x : Int32) (q : Int64) (u1 u2 u3 u4 : Int32) : own_f3s1 x q 1 u1 u2 u3 u4 = own_f4 1 1 x q u1 u2 u3 u4 := by
  have g : ((1 : Int32) - (1 : Int32)).toInt64 = (0 : Int64) := by decide
  have g0 : ((0 : Int32) - (1 : Int32)).toInt64 = (-1 : Int64) := by decide
  have g1 : ((1 : Int32) - (1 : Int32)).toInt64 = (0 : Int64) := by decide
  have g2 : ((2 : Int32) - (1 : Int32)).toInt64 = (1 : Int64) := by decide
  have g3 : ((3 : Int32) - (1 : Int32)).toInt64 = (2 : Int64) := by decide
  unfold own_f3s1 own_f4 own_f5i0 own_f5i1 own_f5i2 own_f5i3
  rw [g0, g1, g2, g3]
  try rw [g]
  by_cases h0 : q.toInt < 0
  · have a0 : (q < (0 : Int64)) := by rw [own_ltl (n := 0) (by decide)]; omega
    have a1 : (q < (1 : Int64)) := by rw [own_ltl (n := 1) (by decide)]; omega
    have a2 : (q < (2 : Int64)) := by rw [own_ltl (n := 2) (by decide)]; omega
    have e1 : ¬ ((1 : Int64) < (((1 : Int64) + q) + (1 : Int64))) := by rw [own_ltE (a := 1) (b := 1) (by decide) (by decide) (by decide) (by omega)]; omega
    have e2 : ¬ ((2 : Int64) < (((1 : Int64) + q) + (1 : Int64))) := by rw [own_ltE (a := 2) (b := 1) (by decide) (by decide) (by decide) (by omega)]; omega
    have e3 : ¬ ((3 : Int64) < (((1 : Int64) + q) + (1 : Int64))) := by rw [own_ltE (a := 3) (b := 1) (by decide) (by decide) (by decide) (by omega)]; omega
    have e4 : ¬ ((4 : Int64) < (((1 : Int64) + q) + (1 : Int64))) := by rw [own_ltE (a := 4) (b := 1) (by decide) (by decide) (by decide) (by omega)]; omega
    simp +decide only [a0, a1, a2, e1, e2, e3, e4, if_true, if_false]
  · skip
    have a0 : ¬ (q < (0 : Int64)) := by rw [own_ltl (n := 0) (by decide)]; omega
    simp +decide only [a0, if_true, if_false]
set_option maxHeartbeats 4000000 in
theorem own_k1z2 (x : Int32) (q : Int64) (u1 u2 u3 u4 : Int32) : own_f3s1 x q 2 u1 u2 u3 u4 = own_f4 2 1 x q u1 u2 u3 u4 := by
  have g : ((2 : Int32) - (1 : Int32)).toInt64 = (1 : Int64) := by decide
  have g0 : ((0 : Int32) - (1 : Int32)).toInt64 = (-1 : Int64) := by decide
  have g1 : ((1 : Int32) - (1 : Int32)).toInt64 = (0 : Int64) := by decide
  have g2 : ((2 : Int32) - (1 : Int32)).toInt64 = (1 : Int64) := by decide
  have g3 : ((3 : Int32) - (1 : Int32)).toInt64 = (2 : Int64) := by decide
  unfold own_f3s1 own_f4 own_f5i0 own_f5i1 own_f5i2 own_f5i3
  rw [g0, g1, g2, g3]
  try rw [g]
  by_cases h0 : q.toInt < 0
  · have a0 : (q < (0 : Int64)) := by rw [own_ltl (n := 0) (by decide)]; omega
    have a1 : (q < (1 : Int64)) := by rw [own_ltl (n := 1) (by decide)]; omega
    have a2 : (q < (2 : Int64)) := by rw [own_ltl (n := 2) (by decide)]; omega
    have e1 : ¬ ((1 : Int64) < (((1 : Int64) + q) + (1 : Int64))) := by rw [own_ltE (a := 1) (b := 1) (by decide) (by decide) (by decide) (by omega)]; omega
    have e2 : ¬ ((2 : Int64) < (((1 : Int64) + q) + (1 : Int64))) := by rw [own_ltE (a := 2) (b := 1) (by decide) (by decide) (by decide) (by omega)]; omega
    have e3 : ¬ ((3 : Int64) < (((1 : Int64) + q) + (1 : Int64))) := by rw [own_ltE (a := 3) (b := 1) (by decide) (by decide) (by decide) (by omega)]; omega
    have e4 : ¬ ((4 : Int64) < (((1 : Int64) + q) + (1 : Int64))) := by rw [own_ltE (a := 4) (b := 1) (by decide) (by decide) (by decide) (by omega)]; omega
    by_cases hb1 : (u2 &&& (255 : Int32)) = x
    · simp +decide only [a0, a1, a2, e1, e2, e3, e4, hb1, if_true, if_false]
    · simp +decide only [a0, a1, a2, e1, e2, e3, e4, hb1, if_true, if_false]
  · skip
    by_cases h1 : q.toInt < 1
    · have a0 : ¬ (q < (0 : Int64)) := by rw [own_ltl (n := 0) (by decide)]; omega
      have a1 : (q < (1 : Int64)) := by rw [own_ltl (n := 1) (by decide)]; omega
      have a2 : (q < (2 : Int64)) := by rw [own_ltl (n := 2) (by decide)]; omega
      have e1 : ((1 : Int64) < (((1 : Int64) + q) + (1 : Int64))) := by rw [own_ltE (a := 1) (b := 1) (by decide) (by decide) (by decide) (by omega)]; omega
      have e2 : ¬ ((2 : Int64) < (((1 : Int64) + q) + (1 : Int64))) := by rw [own_ltE (a := 2) (b := 1) (by decide) (by decide) (by decide) (by omega)]; omega
      have e3 : ¬ ((3 : Int64) < (((1 : Int64) + q) + (1 : Int64))) := by rw [own_ltE (a := 3) (b := 1) (by decide) (by decide) (by decide) (by omega)]; omega
      have e4 : ¬ ((4 : Int64) < (((1 : Int64) + q) + (1 : Int64))) := by rw [own_ltE (a := 4) (b := 1) (by decide) (by decide) (by decide) (by omega)]; omega
      by_cases hb1 : (u2 &&& (255 : Int32)) = x
      · simp +decide only [a0, a1, a2, e1, e2, e3, e4, hb1, if_true, if_false]
      · simp +decide only [a0, a1, a2, e1, e2, e3, e4, hb1, if_true, if_false]
    · skip
      have a0 : ¬ (q < (0 : Int64)) := by rw [own_ltl (n := 0) (by decide)]; omega
      have a1 : ¬ (q < (1 : Int64)) := by rw [own_ltl (n := 1) (by decide)]; omega
      by_cases hb1 : (u2 &&& (255 : Int32)) = x
      · simp +decide only [a0, a1, hb1, if_true, if_false]
      · simp +decide only [a0, a1, hb1, if_true, if_false]
set_option maxHeartbeats 4000000 in
theorem own_k1z3 (x : Int32) (q : Int64) (u1 u2 u3 u4 : Int32) : own_f3s1 x q 3 u1 u2 u3 u4 = own_f4 3 1 x q u1 u2 u3 u4 := by
  have g : ((3 : Int32) - (1 : Int32)).toInt64 = (2 : Int64) := by decide
  have g0 : ((0 : Int32) - (1 : Int32)).toInt64 = (-1 : Int64) := by decide
  have g1 : ((1 : Int32) - (1 : Int32)).toInt64 = (0 : Int64) := by decide
  have g2 : ((2 : Int32) - (1 : Int32)).toInt64 = (1 : Int64) := by decide
  have g3 : ((3 : Int32) - (1 : Int32)).toInt64 = (2 : Int64) := by decide
  unfold own_f3s1 own_f4 own_f5i0 own_f5i1 own_f5i2 own_f5i3
  rw [g0, g1, g2, g3]
  try rw [g]
  by_cases h0 : q.toInt < 0
  · have a0 : (q < (0 : Int64)) := by rw [own_ltl (n := 0) (by decide)]; omega
    have a1 : (q < (1 : Int64)) := by rw [own_ltl (n := 1) (by decide)]; omega
    have a2 : (q < (2 : Int64)) := by rw [own_ltl (n := 2) (by decide)]; omega
    have e1 : ¬ ((1 : Int64) < (((1 : Int64) + q) + (1 : Int64))) := by rw [own_ltE (a := 1) (b := 1) (by decide) (by decide) (by decide) (by omega)]; omega
    have e2 : ¬ ((2 : Int64) < (((1 : Int64) + q) + (1 : Int64))) := by rw [own_ltE (a := 2) (b := 1) (by decide) (by decide) (by decide) (by omega)]; omega
    have e3 : ¬ ((3 : Int64) < (((1 : Int64) + q) + (1 : Int64))) := by rw [own_ltE (a := 3) (b := 1) (by decide) (by decide) (by decide) (by omega)]; omega
    have e4 : ¬ ((4 : Int64) < (((1 : Int64) + q) + (1 : Int64))) := by rw [own_ltE (a := 4) (b := 1) (by decide) (by decide) (by decide) (by omega)]; omega
    by_cases hb1 : (u2 &&& (255 : Int32)) = x
    · by_cases hb2 : (u3 &&& (255 : Int32)) = x
      · simp +decide only [a0, a1, a2, e1, e2, e3, e4, hb1, hb2, if_true, if_false]
      · simp +decide only [a0, a1, a2, e1, e2, e3, e4, hb1, hb2, if_true, if_false]
    · by_cases hb2 : (u3 &&& (255 : Int32)) = x
      · simp +decide only [a0, a1, a2, e1, e2, e3, e4, hb1, hb2, if_true, if_false]
      · simp +decide only [a0, a1, a2, e1, e2, e3, e4, hb1, hb2, if_true, if_false]
  · skip
    by_cases h1 : q.toInt < 1
    · have a0 : ¬ (q < (0 : Int64)) := by rw [own_ltl (n := 0) (by decide)]; omega
      have a1 : (q < (1 : Int64)) := by rw [own_ltl (n := 1) (by decide)]; omega
      have a2 : (q < (2 : Int64)) := by rw [own_ltl (n := 2) (by decide)]; omega
      have e1 : ((1 : Int64) < (((1 : Int64) + q) + (1 : Int64))) := by rw [own_ltE (a := 1) (b := 1) (by decide) (by decide) (by decide) (by omega)]; omega
      have e2 : ¬ ((2 : Int64) < (((1 : Int64) + q) + (1 : Int64))) := by rw [own_ltE (a := 2) (b := 1) (by decide) (by decide) (by decide) (by omega)]; omega
      have e3 : ¬ ((3 : Int64) < (((1 : Int64) + q) + (1 : Int64))) := by rw [own_ltE (a := 3) (b := 1) (by decide) (by decide) (by decide) (by omega)]; omega
      have e4 : ¬ ((4 : Int64) < (((1 : Int64) + q) + (1 : Int64))) := by rw [own_ltE (a := 4) (b := 1) (by decide) (by decide) (by decide) (by omega)]; omega
      by_cases hb1 : (u2 &&& (255 : Int32)) = x
      · by_cases hb2 : (u3 &&& (255 : Int32)) = x
        · simp +decide only [a0, a1, a2, e1, e2, e3, e4, hb1, hb2, if_true, if_false]
        · simp +decide only [a0, a1, a2, e1, e2, e3, e4, hb1, hb2, if_true, if_false]
      · by_cases hb2 : (u3 &&& (255 : Int32)) = x
        · simp +decide only [a0, a1, a2, e1, e2, e3, e4, hb1, hb2, if_true, if_false]
        · simp +decide only [a0, a1, a2, e1, e2, e3, e4, hb1, hb2, if_true, if_false]
    · skip
      by_cases h2 : q.toInt < 2
      · have a0 : ¬ (q < (0 : Int64)) := by rw [own_ltl (n := 0) (by decide)]; omega
        have a1 : ¬ (q < (1 : Int64)) := by rw [own_ltl (n := 1) (by decide)]; omega
        have a2 : (q < (2 : Int64)) := by rw [own_ltl (n := 2) (by decide)]; omega
        have e1 : ((1 : Int64) < (((1 : Int64) + q) + (1 : Int64))) := by rw [own_ltE (a := 1) (b := 1) (by decide) (by decide) (by decide) (by omega)]; omega
        have e2 : ((2 : Int64) < (((1 : Int64) + q) + (1 : Int64))) := by rw [own_ltE (a := 2) (b := 1) (by decide) (by decide) (by decide) (by omega)]; omega
        have e3 : ¬ ((3 : Int64) < (((1 : Int64) + q) + (1 : Int64))) := by rw [own_ltE (a := 3) (b := 1) (by decide) (by decide) (by decide) (by omega)]; omega
        have e4 : ¬ ((4 : Int64) < (((1 : Int64) + q) + (1 : Int64))) := by rw [own_ltE (a := 4) (b := 1) (by decide) (by decide) (by decide) (by omega)]; omega
        by_cases hb1 : (u2 &&& (255 : Int32)) = x
        · by_cases hb2 : (u3 &&& (255 : Int32)) = x
          · simp +decide only [a0, a1, a2, e1, e2, e3, e4, hb1, hb2, if_true, if_false]
          · simp +decide only [a0, a1, a2, e1, e2, e3, e4, hb1, hb2, if_true, if_false]
        · by_cases hb2 : (u3 &&& (255 : Int32)) = x
          · simp +decide only [a0, a1, a2, e1, e2, e3, e4, hb1, hb2, if_true, if_false]
          · simp +decide only [a0, a1, a2, e1, e2, e3, e4, hb1, hb2, if_true, if_false]
      · skip
        have a0 : ¬ (q < (0 : Int64)) := by rw [own_ltl (n := 0) (by decide)]; omega
        have a1 : ¬ (q < (1 : Int64)) := by rw [own_ltl (n := 1) (by decide)]; omega
        have a2 : ¬ (q < (2 : Int64)) := by rw [own_ltl (n := 2) (by decide)]; omega
        by_cases hb1 : (u2 &&& (255 : Int32)) = x
        · by_cases hb2 : (u3 &&& (255 : Int32)) = x
          · simp +decide only [a0, a1, a2, hb1, hb2, if_true, if_false]
          · simp +decide only [a0, a1, a2, hb1, hb2, if_true, if_false]
        · by_cases hb2 : (u3 &&& (255 : Int32)) = x
          · simp +decide only [a0, a1, a2, hb1, hb2, if_true, if_false]
          · simp +decide only [a0, a1, a2, hb1, hb2, if_true, if_false]
set_option maxHeartbeats 4000000 in
theorem own_k1z4 (x : Int32) (q : Int64) (u1 u2 u3 u4 : Int32) : own_f3s1 x q 4 u1 u2 u3 u4 = own_f4 4 1 x q u1 u2 u3 u4 := by
  have g : ((4 : Int32) - (1 : Int32)).toInt64 = (3 : Int64) := by decide
  have g0 : ((0 : Int32) - (1 : Int32)).toInt64 = (-1 : Int64) := by decide
  have g1 : ((1 : Int32) - (1 : Int32)).toInt64 = (0 : Int64) := by decide
  have g2 : ((2 : Int32) - (1 : Int32)).toInt64 = (1 : Int64) := by decide
  have g3 : ((3 : Int32) - (1 : Int32)).toInt64 = (2 : Int64) := by decide
  unfold own_f3s1 own_f4 own_f5i0 own_f5i1 own_f5i2 own_f5i3
  rw [g0, g1, g2, g3]
  try rw [g]
  by_cases h0 : q.toInt < 0
  · have a0 : (q < (0 : Int64)) := by rw [own_ltl (n := 0) (by decide)]; omega
    have a1 : (q < (1 : Int64)) := by rw [own_ltl (n := 1) (by decide)]; omega
    have a2 : (q < (2 : Int64)) := by rw [own_ltl (n := 2) (by decide)]; omega
    have a3 : (q < (3 : Int64)) := by rw [own_ltl (n := 3) (by decide)]; omega
    have e1 : ¬ ((1 : Int64) < (((1 : Int64) + q) + (1 : Int64))) := by rw [own_ltE (a := 1) (b := 1) (by decide) (by decide) (by decide) (by omega)]; omega
    have e2 : ¬ ((2 : Int64) < (((1 : Int64) + q) + (1 : Int64))) := by rw [own_ltE (a := 2) (b := 1) (by decide) (by decide) (by decide) (by omega)]; omega
    have e3 : ¬ ((3 : Int64) < (((1 : Int64) + q) + (1 : Int64))) := by rw [own_ltE (a := 3) (b := 1) (by decide) (by decide) (by decide) (by omega)]; omega
    have e4 : ¬ ((4 : Int64) < (((1 : Int64) + q) + (1 : Int64))) := by rw [own_ltE (a := 4) (b := 1) (by decide) (by decide) (by decide) (by omega)]; omega
    by_cases hb1 : (u2 &&& (255 : Int32)) = x
    · by_cases hb2 : (u3 &&& (255 : Int32)) = x
      · by_cases hb3 : (u4 &&& (255 : Int32)) = x
        · simp +decide only [a0, a1, a2, a3, e1, e2, e3, e4, hb1, hb2, hb3, if_true, if_false]
        · simp +decide only [a0, a1, a2, a3, e1, e2, e3, e4, hb1, hb2, hb3, if_true, if_false]
      · by_cases hb3 : (u4 &&& (255 : Int32)) = x
        · simp +decide only [a0, a1, a2, a3, e1, e2, e3, e4, hb1, hb2, hb3, if_true, if_false]
        · simp +decide only [a0, a1, a2, a3, e1, e2, e3, e4, hb1, hb2, hb3, if_true, if_false]
    · by_cases hb2 : (u3 &&& (255 : Int32)) = x
      · by_cases hb3 : (u4 &&& (255 : Int32)) = x
        · simp +decide only [a0, a1, a2, a3, e1, e2, e3, e4, hb1, hb2, hb3, if_true, if_false]
        · simp +decide only [a0, a1, a2, a3, e1, e2, e3, e4, hb1, hb2, hb3, if_true, if_false]
      · by_cases hb3 : (u4 &&& (255 : Int32)) = x
        · simp +decide only [a0, a1, a2, a3, e1, e2, e3, e4, hb1, hb2, hb3, if_true, if_false]
        · simp +decide only [a0, a1, a2, a3, e1, e2, e3, e4, hb1, hb2, hb3, if_true, if_false]
  · skip
    by_cases h1 : q.toInt < 1
    · have a0 : ¬ (q < (0 : Int64)) := by rw [own_ltl (n := 0) (by decide)]; omega
      have a1 : (q < (1 : Int64)) := by rw [own_ltl (n := 1) (by decide)]; omega
      have a2 : (q < (2 : Int64)) := by rw [own_ltl (n := 2) (by decide)]; omega
      have a3 : (q < (3 : Int64)) := by rw [own_ltl (n := 3) (by decide)]; omega
      have e1 : ((1 : Int64) < (((1 : Int64) + q) + (1 : Int64))) := by rw [own_ltE (a := 1) (b := 1) (by decide) (by decide) (by decide) (by omega)]; omega
      have e2 : ¬ ((2 : Int64) < (((1 : Int64) + q) + (1 : Int64))) := by rw [own_ltE (a := 2) (b := 1) (by decide) (by decide) (by decide) (by omega)]; omega
      have e3 : ¬ ((3 : Int64) < (((1 : Int64) + q) + (1 : Int64))) := by rw [own_ltE (a := 3) (b := 1) (by decide) (by decide) (by decide) (by omega)]; omega
      have e4 : ¬ ((4 : Int64) < (((1 : Int64) + q) + (1 : Int64))) := by rw [own_ltE (a := 4) (b := 1) (by decide) (by decide) (by decide) (by omega)]; omega
      by_cases hb1 : (u2 &&& (255 : Int32)) = x
      · by_cases hb2 : (u3 &&& (255 : Int32)) = x
        · by_cases hb3 : (u4 &&& (255 : Int32)) = x
          · simp +decide only [a0, a1, a2, a3, e1, e2, e3, e4, hb1, hb2, hb3, if_true, if_false]
          · simp +decide only [a0, a1, a2, a3, e1, e2, e3, e4, hb1, hb2, hb3, if_true, if_false]
        · by_cases hb3 : (u4 &&& (255 : Int32)) = x
          · simp +decide only [a0, a1, a2, a3, e1, e2, e3, e4, hb1, hb2, hb3, if_true, if_false]
          · simp +decide only [a0, a1, a2, a3, e1, e2, e3, e4, hb1, hb2, hb3, if_true, if_false]
      · by_cases hb2 : (u3 &&& (255 : Int32)) = x
        · by_cases hb3 : (u4 &&& (255 : Int32)) = x
          · simp +decide only [a0, a1, a2, a3, e1, e2, e3, e4, hb1, hb2, hb3, if_true, if_false]
          · simp +decide only [a0, a1, a2, a3, e1, e2, e3, e4, hb1, hb2, hb3, if_true, if_false]
        · by_cases hb3 : (u4 &&& (255 : Int32)) = x
          · simp +decide only [a0, a1, a2, a3, e1, e2, e3, e4, hb1, hb2, hb3, if_true, if_false]
          · simp +decide only [a0, a1, a2, a3, e1, e2, e3, e4, hb1, hb2, hb3, if_true, if_false]
    · skip
      by_cases h2 : q.toInt < 2
      · have a0 : ¬ (q < (0 : Int64)) := by rw [own_ltl (n := 0) (by decide)]; omega
        have a1 : ¬ (q < (1 : Int64)) := by rw [own_ltl (n := 1) (by decide)]; omega
        have a2 : (q < (2 : Int64)) := by rw [own_ltl (n := 2) (by decide)]; omega
        have a3 : (q < (3 : Int64)) := by rw [own_ltl (n := 3) (by decide)]; omega
        have e1 : ((1 : Int64) < (((1 : Int64) + q) + (1 : Int64))) := by rw [own_ltE (a := 1) (b := 1) (by decide) (by decide) (by decide) (by omega)]; omega
        have e2 : ((2 : Int64) < (((1 : Int64) + q) + (1 : Int64))) := by rw [own_ltE (a := 2) (b := 1) (by decide) (by decide) (by decide) (by omega)]; omega
        have e3 : ¬ ((3 : Int64) < (((1 : Int64) + q) + (1 : Int64))) := by rw [own_ltE (a := 3) (b := 1) (by decide) (by decide) (by decide) (by omega)]; omega
        have e4 : ¬ ((4 : Int64) < (((1 : Int64) + q) + (1 : Int64))) := by rw [own_ltE (a := 4) (b := 1) (by decide) (by decide) (by decide) (by omega)]; omega
        by_cases hb1 : (u2 &&& (255 : Int32)) = x
        · by_cases hb2 : (u3 &&& (255 : Int32)) = x
          · by_cases hb3 : (u4 &&& (255 : Int32)) = x
            · simp +decide only [a0, a1, a2, a3, e1, e2, e3, e4, hb1, hb2, hb3, if_true, if_false]
            · simp +decide only [a0, a1, a2, a3, e1, e2, e3, e4, hb1, hb2, hb3, if_true, if_false]
          · by_cases hb3 : (u4 &&& (255 : Int32)) = x
            · simp +decide only [a0, a1, a2, a3, e1, e2, e3, e4, hb1, hb2, hb3, if_true, if_false]
            · simp +decide only [a0, a1, a2, a3, e1, e2, e3, e4, hb1, hb2, hb3, if_true, if_false]
        · by_cases hb2 : (u3 &&& (255 : Int32)) = x
          · by_cases hb3 : (u4 &&& (255 : Int32)) = x
            · simp +decide only [a0, a1, a2, a3, e1, e2, e3, e4, hb1, hb2, hb3, if_true, if_false]
            · simp +decide only [a0, a1, a2, a3, e1, e2, e3, e4, hb1, hb2, hb3, if_true, if_false]
          · by_cases hb3 : (u4 &&& (255 : Int32)) = x
            · simp +decide only [a0, a1, a2, a3, e1, e2, e3, e4, hb1, hb2, hb3, if_true, if_false]
            · simp +decide only [a0, a1, a2, a3, e1, e2, e3, e4, hb1, hb2, hb3, if_true, if_false]
      · skip
        by_cases h3 : q.toInt < 3
        · have a0 : ¬ (q < (0 : Int64)) := by rw [own_ltl (n := 0) (by decide)]; omega
          have a1 : ¬ (q < (1 : Int64)) := by rw [own_ltl (n := 1) (by decide)]; omega
          have a2 : ¬ (q < (2 : Int64)) := by rw [own_ltl (n := 2) (by decide)]; omega
          have a3 : (q < (3 : Int64)) := by rw [own_ltl (n := 3) (by decide)]; omega
          have e1 : ((1 : Int64) < (((1 : Int64) + q) + (1 : Int64))) := by rw [own_ltE (a := 1) (b := 1) (by decide) (by decide) (by decide) (by omega)]; omega
          have e2 : ((2 : Int64) < (((1 : Int64) + q) + (1 : Int64))) := by rw [own_ltE (a := 2) (b := 1) (by decide) (by decide) (by decide) (by omega)]; omega
          have e3 : ((3 : Int64) < (((1 : Int64) + q) + (1 : Int64))) := by rw [own_ltE (a := 3) (b := 1) (by decide) (by decide) (by decide) (by omega)]; omega
          have e4 : ¬ ((4 : Int64) < (((1 : Int64) + q) + (1 : Int64))) := by rw [own_ltE (a := 4) (b := 1) (by decide) (by decide) (by decide) (by omega)]; omega
          by_cases hb1 : (u2 &&& (255 : Int32)) = x
          · by_cases hb2 : (u3 &&& (255 : Int32)) = x
            · by_cases hb3 : (u4 &&& (255 : Int32)) = x
              · simp +decide only [a0, a1, a2, a3, e1, e2, e3, e4, hb1, hb2, hb3, if_true, if_false]
              · simp +decide only [a0, a1, a2, a3, e1, e2, e3, e4, hb1, hb2, hb3, if_true, if_false]
            · by_cases hb3 : (u4 &&& (255 : Int32)) = x
              · simp +decide only [a0, a1, a2, a3, e1, e2, e3, e4, hb1, hb2, hb3, if_true, if_false]
              · simp +decide only [a0, a1, a2, a3, e1, e2, e3, e4, hb1, hb2, hb3, if_true, if_false]
          · by_cases hb2 : (u3 &&& (255 : Int32)) = x
            · by_cases hb3 : (u4 &&& (255 : Int32)) = x
              · simp +decide only [a0, a1, a2, a3, e1, e2, e3, e4, hb1, hb2, hb3, if_true, if_false]
              · simp +decide only [a0, a1, a2, a3, e1, e2, e3, e4, hb1, hb2, hb3, if_true, if_false]
            · by_cases hb3 : (u4 &&& (255 : Int32)) = x
              · simp +decide only [a0, a1, a2, a3, e1, e2, e3, e4, hb1, hb2, hb3, if_true, if_false]
              · simp +decide only [a0, a1, a2, a3, e1, e2, e3, e4, hb1, hb2, hb3, if_true, if_false]
        · skip
          have a0 : ¬ (q < (0 : Int64)) := by rw [own_ltl (n := 0) (by decide)]; omega
          have a1 : ¬ (q < (1 : Int64)) := by rw [own_ltl (n := 1) (by decide)]; omega
          have a2 : ¬ (q < (2 : Int64)) := by rw [own_ltl (n := 2) (by decide)]; omega
          have a3 : ¬ (q < (3 : Int64)) := by rw [own_ltl (n := 3) (by decide)]; omega
          by_cases hb1 : (u2 &&& (255 : Int32)) = x
          · by_cases hb2 : (u3 &&& (255 : Int32)) = x
            · by_cases hb3 : (u4 &&& (255 : Int32)) = x
              · simp +decide only [a0, a1, a2, a3, hb1, hb2, hb3, if_true, if_false]
              · simp +decide only [a0, a1, a2, a3, hb1, hb2, hb3, if_true, if_false]
            · by_cases hb3 : (u4 &&& (255 : Int32)) = x
              · simp +decide only [a0, a1, a2, a3, hb1, hb2, hb3, if_true, if_false]
              · simp +decide only [a0, a1, a2, a3, hb1, hb2, hb3, if_true, if_false]
          · by_cases hb2 : (u3 &&& (255 : Int32)) = x
            · by_cases hb3 : (u4 &&& (255 : Int32)) = x
              · simp +decide only [a0, a1, a2, a3, hb1, hb2, hb3, if_true, if_false]
              · simp +decide only [a0, a1, a2, a3, hb1, hb2, hb3, if_true, if_false]
            · by_cases hb3 : (u4 &&& (255 : Int32)) = x
              · simp +decide only [a0, a1, a2, a3, hb1, hb2, hb3, if_true, if_false]
              · simp +decide only [a0, a1, a2, a3, hb1, hb2, hb3, if_true, if_false]
set_option maxHeartbeats 4000000 in
theorem own_k2z2 (x : Int32) (q : Int64) (u1 u2 u3 u4 : Int32) : own_f3s2 x q 2 u1 u2 u3 u4 = own_f4 2 2 x q u1 u2 u3 u4 := by
  have g : ((2 : Int32) - (2 : Int32)).toInt64 = (0 : Int64) := by decide
  have g0 : ((0 : Int32) - (2 : Int32)).toInt64 = (-2 : Int64) := by decide
  have g1 : ((1 : Int32) - (2 : Int32)).toInt64 = (-1 : Int64) := by decide
  have g2 : ((2 : Int32) - (2 : Int32)).toInt64 = (0 : Int64) := by decide
  have g3 : ((3 : Int32) - (2 : Int32)).toInt64 = (1 : Int64) := by decide
  unfold own_f3s2 own_f4 own_f5i0 own_f5i1 own_f5i2 own_f5i3
  rw [g0, g1, g2, g3]
  try rw [g]
  by_cases h0 : q.toInt < 0
  · have a0 : (q < (0 : Int64)) := by rw [own_ltl (n := 0) (by decide)]; omega
    have a1 : (q < (1 : Int64)) := by rw [own_ltl (n := 1) (by decide)]; omega
    have e2 : ¬ ((2 : Int64) < (((2 : Int64) + q) + (1 : Int64))) := by rw [own_ltE (a := 2) (b := 2) (by decide) (by decide) (by decide) (by omega)]; omega
    have e3 : ¬ ((3 : Int64) < (((2 : Int64) + q) + (1 : Int64))) := by rw [own_ltE (a := 3) (b := 2) (by decide) (by decide) (by decide) (by omega)]; omega
    have e4 : ¬ ((4 : Int64) < (((2 : Int64) + q) + (1 : Int64))) := by rw [own_ltE (a := 4) (b := 2) (by decide) (by decide) (by decide) (by omega)]; omega
    simp +decide only [a0, a1, e2, e3, e4, if_true, if_false]
  · skip
    have a0 : ¬ (q < (0 : Int64)) := by rw [own_ltl (n := 0) (by decide)]; omega
    simp +decide only [a0, if_true, if_false]
set_option maxHeartbeats 4000000 in
theorem own_k2z3 (x : Int32) (q : Int64) (u1 u2 u3 u4 : Int32) : own_f3s2 x q 3 u1 u2 u3 u4 = own_f4 3 2 x q u1 u2 u3 u4 := by
  have g : ((3 : Int32) - (2 : Int32)).toInt64 = (1 : Int64) := by decide
  have g0 : ((0 : Int32) - (2 : Int32)).toInt64 = (-2 : Int64) := by decide
  have g1 : ((1 : Int32) - (2 : Int32)).toInt64 = (-1 : Int64) := by decide
  have g2 : ((2 : Int32) - (2 : Int32)).toInt64 = (0 : Int64) := by decide
  have g3 : ((3 : Int32) - (2 : Int32)).toInt64 = (1 : Int64) := by decide
  unfold own_f3s2 own_f4 own_f5i0 own_f5i1 own_f5i2 own_f5i3
  rw [g0, g1, g2, g3]
  try rw [g]
  by_cases h0 : q.toInt < 0
  · have a0 : (q < (0 : Int64)) := by rw [own_ltl (n := 0) (by decide)]; omega
    have a1 : (q < (1 : Int64)) := by rw [own_ltl (n := 1) (by decide)]; omega
    have e2 : ¬ ((2 : Int64) < (((2 : Int64) + q) + (1 : Int64))) := by rw [own_ltE (a := 2) (b := 2) (by decide) (by decide) (by decide) (by omega)]; omega
    have e3 : ¬ ((3 : Int64) < (((2 : Int64) + q) + (1 : Int64))) := by rw [own_ltE (a := 3) (b := 2) (by decide) (by decide) (by decide) (by omega)]; omega
    have e4 : ¬ ((4 : Int64) < (((2 : Int64) + q) + (1 : Int64))) := by rw [own_ltE (a := 4) (b := 2) (by decide) (by decide) (by decide) (by omega)]; omega
    by_cases hb2 : (u3 &&& (255 : Int32)) = x
    · simp +decide only [a0, a1, e2, e3, e4, hb2, if_true, if_false]
    · simp +decide only [a0, a1, e2, e3, e4, hb2, if_true, if_false]
  · skip
    by_cases h1 : q.toInt < 1
    · have a0 : ¬ (q < (0 : Int64)) := by rw [own_ltl (n := 0) (by decide)]; omega
      have a1 : (q < (1 : Int64)) := by rw [own_ltl (n := 1) (by decide)]; omega
      have e2 : ((2 : Int64) < (((2 : Int64) + q) + (1 : Int64))) := by rw [own_ltE (a := 2) (b := 2) (by decide) (by decide) (by decide) (by omega)]; omega
      have e3 : ¬ ((3 : Int64) < (((2 : Int64) + q) + (1 : Int64))) := by rw [own_ltE (a := 3) (b := 2) (by decide) (by decide) (by decide) (by omega)]; omega
      have e4 : ¬ ((4 : Int64) < (((2 : Int64) + q) + (1 : Int64))) := by rw [own_ltE (a := 4) (b := 2) (by decide) (by decide) (by decide) (by omega)]; omega
      by_cases hb2 : (u3 &&& (255 : Int32)) = x
      · simp +decide only [a0, a1, e2, e3, e4, hb2, if_true, if_false]
      · simp +decide only [a0, a1, e2, e3, e4, hb2, if_true, if_false]
    · skip
      have a0 : ¬ (q < (0 : Int64)) := by rw [own_ltl (n := 0) (by decide)]; omega
      have a1 : ¬ (q < (1 : Int64)) := by rw [own_ltl (n := 1) (by decide)]; omega
      by_cases hb2 : (u3 &&& (255 : Int32)) = x
      · simp +decide only [a0, a1, hb2, if_true, if_false]
      · simp +decide only [a0, a1, hb2, if_true, if_false]
set_option maxHeartbeats 4000000 in
theorem own_k2z4 (x : Int32) (q : Int64) (u1 u2 u3 u4 : Int32) : own_f3s2 x q 4 u1 u2 u3 u4 = own_f4 4 2 x q u1 u2 u3 u4 := by
  have g : ((4 : Int32) - (2 : Int32)).toInt64 = (2 : Int64) := by decide
  have g0 : ((0 : Int32) - (2 : Int32)).toInt64 = (-2 : Int64) := by decide
  have g1 : ((1 : Int32) - (2 : Int32)).toInt64 = (-1 : Int64) := by decide
  have g2 : ((2 : Int32) - (2 : Int32)).toInt64 = (0 : Int64) := by decide
  have g3 : ((3 : Int32) - (2 : Int32)).toInt64 = (1 : Int64) := by decide
  unfold own_f3s2 own_f4 own_f5i0 own_f5i1 own_f5i2 own_f5i3
  rw [g0, g1, g2, g3]
  try rw [g]
  by_cases h0 : q.toInt < 0
  · have a0 : (q < (0 : Int64)) := by rw [own_ltl (n := 0) (by decide)]; omega
    have a1 : (q < (1 : Int64)) := by rw [own_ltl (n := 1) (by decide)]; omega
    have a2 : (q < (2 : Int64)) := by rw [own_ltl (n := 2) (by decide)]; omega
    have e2 : ¬ ((2 : Int64) < (((2 : Int64) + q) + (1 : Int64))) := by rw [own_ltE (a := 2) (b := 2) (by decide) (by decide) (by decide) (by omega)]; omega
    have e3 : ¬ ((3 : Int64) < (((2 : Int64) + q) + (1 : Int64))) := by rw [own_ltE (a := 3) (b := 2) (by decide) (by decide) (by decide) (by omega)]; omega
    have e4 : ¬ ((4 : Int64) < (((2 : Int64) + q) + (1 : Int64))) := by rw [own_ltE (a := 4) (b := 2) (by decide) (by decide) (by decide) (by omega)]; omega
    by_cases hb2 : (u3 &&& (255 : Int32)) = x
    · by_cases hb3 : (u4 &&& (255 : Int32)) = x
      · simp +decide only [a0, a1, a2, e2, e3, e4, hb2, hb3, if_true, if_false]
      · simp +decide only [a0, a1, a2, e2, e3, e4, hb2, hb3, if_true, if_false]
    · by_cases hb3 : (u4 &&& (255 : Int32)) = x
      · simp +decide only [a0, a1, a2, e2, e3, e4, hb2, hb3, if_true, if_false]
      · simp +decide only [a0, a1, a2, e2, e3, e4, hb2, hb3, if_true, if_false]
  · skip
    by_cases h1 : q.toInt < 1
    · have a0 : ¬ (q < (0 : Int64)) := by rw [own_ltl (n := 0) (by decide)]; omega
      have a1 : (q < (1 : Int64)) := by rw [own_ltl (n := 1) (by decide)]; omega
      have a2 : (q < (2 : Int64)) := by rw [own_ltl (n := 2) (by decide)]; omega
      have e2 : ((2 : Int64) < (((2 : Int64) + q) + (1 : Int64))) := by rw [own_ltE (a := 2) (b := 2) (by decide) (by decide) (by decide) (by omega)]; omega
      have e3 : ¬ ((3 : Int64) < (((2 : Int64) + q) + (1 : Int64))) := by rw [own_ltE (a := 3) (b := 2) (by decide) (by decide) (by decide) (by omega)]; omega
      have e4 : ¬ ((4 : Int64) < (((2 : Int64) + q) + (1 : Int64))) := by rw [own_ltE (a := 4) (b := 2) (by decide) (by decide) (by decide) (by omega)]; omega
      by_cases hb2 : (u3 &&& (255 : Int32)) = x
      · by_cases hb3 : (u4 &&& (255 : Int32)) = x
        · simp +decide only [a0, a1, a2, e2, e3, e4, hb2, hb3, if_true, if_false]
        · simp +decide only [a0, a1, a2, e2, e3, e4, hb2, hb3, if_true, if_false]
      · by_cases hb3 : (u4 &&& (255 : Int32)) = x
        · simp +decide only [a0, a1, a2, e2, e3, e4, hb2, hb3, if_true, if_false]
        · simp +decide only [a0, a1, a2, e2, e3, e4, hb2, hb3, if_true, if_false]
    · skip
      by_cases h2 : q.toInt < 2
      · have a0 : ¬ (q < (0 : Int64)) := by rw [own_ltl (n := 0) (by decide)]; omega
        have a1 : ¬ (q < (1 : Int64)) := by rw [own_ltl (n := 1) (by decide)]; omega
        have a2 : (q < (2 : Int64)) := by rw [own_ltl (n := 2) (by decide)]; omega
        have e2 : ((2 : Int64) < (((2 : Int64) + q) + (1 : Int64))) := by rw [own_ltE (a := 2) (b := 2) (by decide) (by decide) (by decide) (by omega)]; omega
        have e3 : ((3 : Int64) < (((2 : Int64) + q) + (1 : Int64))) := by rw [own_ltE (a := 3) (b := 2) (by decide) (by decide) (by decide) (by omega)]; omega
        have e4 : ¬ ((4 : Int64) < (((2 : Int64) + q) + (1 : Int64))) := by rw [own_ltE (a := 4) (b := 2) (by decide) (by decide) (by decide) (by omega)]; omega
        by_cases hb2 : (u3 &&& (255 : Int32)) = x
        · by_cases hb3 : (u4 &&& (255 : Int32)) = x
          · simp +decide only [a0, a1, a2, e2, e3, e4, hb2, hb3, if_true, if_false]
          · simp +decide only [a0, a1, a2, e2, e3, e4, hb2, hb3, if_true, if_false]
        · by_cases hb3 : (u4 &&& (255 : Int32)) = x
          · simp +decide only [a0, a1, a2, e2, e3, e4, hb2, hb3, if_true, if_false]
          · simp +decide only [a0, a1, a2, e2, e3, e4, hb2, hb3, if_true, if_false]
      · skip
        have a0 : ¬ (q < (0 : Int64)) := by rw [own_ltl (n := 0) (by decide)]; omega
        have a1 : ¬ (q < (1 : Int64)) := by rw [own_ltl (n := 1) (by decide)]; omega
        have a2 : ¬ (q < (2 : Int64)) := by rw [own_ltl (n := 2) (by decide)]; omega
        by_cases hb2 : (u3 &&& (255 : Int32)) = x
        · by_cases hb3 : (u4 &&& (255 : Int32)) = x
          · simp +decide only [a0, a1, a2, hb2, hb3, if_true, if_false]
          · simp +decide only [a0, a1, a2, hb2, hb3, if_true, if_false]
        · by_cases hb3 : (u4 &&& (255 : Int32)) = x
          · simp +decide only [a0, a1, a2, hb2, hb3, if_true, if_false]
          · simp +decide only [a0, a1, a2, hb2, hb3, if_true, if_false]
set_option maxHeartbeats 4000000 in
theorem own_k3z3 (x : Int32) (q : Int64) (u1 u2 u3 u4 : Int32) : own_f3s3 x q 3 u1 u2 u3 u4 = own_f4 3 3 x q u1 u2 u3 u4 := by
  have g : ((3 : Int32) - (3 : Int32)).toInt64 = (0 : Int64) := by decide
  have g0 : ((0 : Int32) - (3 : Int32)).toInt64 = (-3 : Int64) := by decide
  have g1 : ((1 : Int32) - (3 : Int32)).toInt64 = (-2 : Int64) := by decide
  have g2 : ((2 : Int32) - (3 : Int32)).toInt64 = (-1 : Int64) := by decide
  have g3 : ((3 : Int32) - (3 : Int32)).toInt64 = (0 : Int64) := by decide
  unfold own_f3s3 own_f4 own_f5i0 own_f5i1 own_f5i2 own_f5i3
  rw [g0, g1, g2, g3]
  try rw [g]
  by_cases h0 : q.toInt < 0
  · have a0 : (q < (0 : Int64)) := by rw [own_ltl (n := 0) (by decide)]; omega
    have e3 : ¬ ((3 : Int64) < (((3 : Int64) + q) + (1 : Int64))) := by rw [own_ltE (a := 3) (b := 3) (by decide) (by decide) (by decide) (by omega)]; omega
    have e4 : ¬ ((4 : Int64) < (((3 : Int64) + q) + (1 : Int64))) := by rw [own_ltE (a := 4) (b := 3) (by decide) (by decide) (by decide) (by omega)]; omega
    simp +decide only [a0, e3, e4, if_true, if_false]
  · skip
    have a0 : ¬ (q < (0 : Int64)) := by rw [own_ltl (n := 0) (by decide)]; omega
    simp +decide only [a0, if_true, if_false]
set_option maxHeartbeats 4000000 in
theorem own_k3z4 (x : Int32) (q : Int64) (u1 u2 u3 u4 : Int32) : own_f3s3 x q 4 u1 u2 u3 u4 = own_f4 4 3 x q u1 u2 u3 u4 := by
  have g : ((4 : Int32) - (3 : Int32)).toInt64 = (1 : Int64) := by decide
  have g0 : ((0 : Int32) - (3 : Int32)).toInt64 = (-3 : Int64) := by decide
  have g1 : ((1 : Int32) - (3 : Int32)).toInt64 = (-2 : Int64) := by decide
  have g2 : ((2 : Int32) - (3 : Int32)).toInt64 = (-1 : Int64) := by decide
  have g3 : ((3 : Int32) - (3 : Int32)).toInt64 = (0 : Int64) := by decide
  unfold own_f3s3 own_f4 own_f5i0 own_f5i1 own_f5i2 own_f5i3
  rw [g0, g1, g2, g3]
  try rw [g]
  by_cases h0 : q.toInt < 0
  · have a0 : (q < (0 : Int64)) := by rw [own_ltl (n := 0) (by decide)]; omega
    have a1 : (q < (1 : Int64)) := by rw [own_ltl (n := 1) (by decide)]; omega
    have e3 : ¬ ((3 : Int64) < (((3 : Int64) + q) + (1 : Int64))) := by rw [own_ltE (a := 3) (b := 3) (by decide) (by decide) (by decide) (by omega)]; omega
    have e4 : ¬ ((4 : Int64) < (((3 : Int64) + q) + (1 : Int64))) := by rw [own_ltE (a := 4) (b := 3) (by decide) (by decide) (by decide) (by omega)]; omega
    by_cases hb3 : (u4 &&& (255 : Int32)) = x
    · simp +decide only [a0, a1, e3, e4, hb3, if_true, if_false]
    · simp +decide only [a0, a1, e3, e4, hb3, if_true, if_false]
  · skip
    by_cases h1 : q.toInt < 1
    · have a0 : ¬ (q < (0 : Int64)) := by rw [own_ltl (n := 0) (by decide)]; omega
      have a1 : (q < (1 : Int64)) := by rw [own_ltl (n := 1) (by decide)]; omega
      have e3 : ((3 : Int64) < (((3 : Int64) + q) + (1 : Int64))) := by rw [own_ltE (a := 3) (b := 3) (by decide) (by decide) (by decide) (by omega)]; omega
      have e4 : ¬ ((4 : Int64) < (((3 : Int64) + q) + (1 : Int64))) := by rw [own_ltE (a := 4) (b := 3) (by decide) (by decide) (by decide) (by omega)]; omega
      by_cases hb3 : (u4 &&& (255 : Int32)) = x
      · simp +decide only [a0, a1, e3, e4, hb3, if_true, if_false]
      · simp +decide only [a0, a1, e3, e4, hb3, if_true, if_false]
    · skip
      have a0 : ¬ (q < (0 : Int64)) := by rw [own_ltl (n := 0) (by decide)]; omega
      have a1 : ¬ (q < (1 : Int64)) := by rw [own_ltl (n := 1) (by decide)]; omega
      by_cases hb3 : (u4 &&& (255 : Int32)) = x
      · simp +decide only [a0, a1, hb3, if_true, if_false]
      · simp +decide only [a0, a1, hb3, if_true, if_false]
set_option maxHeartbeats 4000000 in
theorem own_k4z4 (x : Int32) (q : Int64) (u1 u2 u3 u4 : Int32) : own_f3s4 x q 4 u1 u2 u3 u4 = own_f4 4 4 x q u1 u2 u3 u4 := by
  have g : ((4 : Int32) - (4 : Int32)).toInt64 = (0 : Int64) := by decide
  have g0 : ((0 : Int32) - (4 : Int32)).toInt64 = (-4 : Int64) := by decide
  have g1 : ((1 : Int32) - (4 : Int32)).toInt64 = (-3 : Int64) := by decide
  have g2 : ((2 : Int32) - (4 : Int32)).toInt64 = (-2 : Int64) := by decide
  have g3 : ((3 : Int32) - (4 : Int32)).toInt64 = (-1 : Int64) := by decide
  unfold own_f3s4 own_f4 own_f5i0 own_f5i1 own_f5i2 own_f5i3
  rw [g0, g1, g2, g3]
  try rw [g]
  by_cases h0 : q.toInt < 0
  · have a0 : (q < (0 : Int64)) := by rw [own_ltl (n := 0) (by decide)]; omega
    have e4 : ¬ ((4 : Int64) < (((4 : Int64) + q) + (1 : Int64))) := by rw [own_ltE (a := 4) (b := 4) (by decide) (by decide) (by decide) (by omega)]; omega
    simp +decide only [a0, e4, if_true, if_false]
  · skip
    have a0 : ¬ (q < (0 : Int64)) := by rw [own_ltl (n := 0) (by decide)]; omega
    simp +decide only [a0, if_true, if_false]
theorem own_kz (k z : Int32) (hn : 0 ≤ z.toInt ∧ z.toInt ≤ 4) : True := trivial
theorem own_kk0 (x : Int32) (q : Int64) (z u1 u2 u3 u4 : Int32) (hn : 0 ≤ z.toInt ∧ z.toInt ≤ 4) (hk : (0 : Int32).toInt ≤ z.toInt) : own_f3s0 x q z u1 u2 u3 u4 = own_f4 z 0 x q u1 u2 u3 u4 := by
  rcases own_or4 hn with rfl | rfl | rfl | rfl | rfl
  · exact own_k0z0 _ _ _ _ _ _
  · exact own_k0z1 _ _ _ _ _ _
  · exact own_k0z2 _ _ _ _ _ _
  · exact own_k0z3 _ _ _ _ _ _
  · exact own_k0z4 _ _ _ _ _ _
theorem own_kk1 (x : Int32) (q : Int64) (z u1 u2 u3 u4 : Int32) (hn : 0 ≤ z.toInt ∧ z.toInt ≤ 4) (hk : (1 : Int32).toInt ≤ z.toInt) : own_f3s1 x q z u1 u2 u3 u4 = own_f4 z 1 x q u1 u2 u3 u4 := by
  rcases own_or4 hn with rfl | rfl | rfl | rfl | rfl
  · exact absurd hk (by decide)
  · exact own_k1z1 _ _ _ _ _ _
  · exact own_k1z2 _ _ _ _ _ _
  · exact own_k1z3 _ _ _ _ _ _
  · exact own_k1z4 _ _ _ _ _ _
theorem own_kk2 (x : Int32) (q : Int64) (z u1 u2 u3 u4 : Int32) (hn : 0 ≤ z.toInt ∧ z.toInt ≤ 4) (hk : (2 : Int32).toInt ≤ z.toInt) : own_f3s2 x q z u1 u2 u3 u4 = own_f4 z 2 x q u1 u2 u3 u4 := by
  rcases own_or4 hn with rfl | rfl | rfl | rfl | rfl
  · exact absurd hk (by decide)
  · exact absurd hk (by decide)
  · exact own_k2z2 _ _ _ _ _ _
  · exact own_k2z3 _ _ _ _ _ _
  · exact own_k2z4 _ _ _ _ _ _
theorem own_kk3 (x : Int32) (q : Int64) (z u1 u2 u3 u4 : Int32) (hn : 0 ≤ z.toInt ∧ z.toInt ≤ 4) (hk : (3 : Int32).toInt ≤ z.toInt) : own_f3s3 x q z u1 u2 u3 u4 = own_f4 z 3 x q u1 u2 u3 u4 := by
  rcases own_or4 hn with rfl | rfl | rfl | rfl | rfl
  · exact absurd hk (by decide)
  · exact absurd hk (by decide)
  · exact absurd hk (by decide)
  · exact own_k3z3 _ _ _ _ _ _
  · exact own_k3z4 _ _ _ _ _ _
theorem own_kk4 (x : Int32) (q : Int64) (z u1 u2 u3 u4 : Int32) (hn : 0 ≤ z.toInt ∧ z.toInt ≤ 4) (hk : (4 : Int32).toInt ≤ z.toInt) : own_f3s4 x q z u1 u2 u3 u4 = own_f4 z 4 x q u1 u2 u3 u4 := by
  rcases own_or4 hn with rfl | rfl | rfl | rfl | rfl
  · exact absurd hk (by decide)
  · exact absurd hk (by decide)
  · exact absurd hk (by decide)
  · exact absurd hk (by decide)
  · exact own_k4z4 _ _ _ _ _ _
theorem own_k146 (v1 v2 v3 : Int32) (v4 : Int64) (v5 v6 v7 v8 : Int32) (v9 : Int64) (u1 u2 u3 u4 : Int32) (hn : 0 ≤ v5.toInt ∧ v5.toInt ≤ 4) (hs : 0 ≤ v6.toInt ∧ v6.toInt ≤ v5.toInt) : own_f0_146 v1 v2 v3 v4 v5 v6 v7 v8 v9 u1 u2 u3 u4 = 1 := by
  unfold own_f0_146
  rcases own_s5 hn hs with rfl | rfl | rfl | rfl | rfl
  · rw [if_pos rfl, if_pos (own_kk0 _ _ _ _ _ _ _ hn hs.2)]
  · rw [if_neg (by decide), if_pos rfl]; unfold own_f0_171_1; rw [if_pos (own_kk1 _ _ _ _ _ _ _ hn hs.2)]
  · rw [if_neg (by decide), if_neg (by decide), if_pos rfl]; unfold own_f0_171_2; rw [if_pos (own_kk2 _ _ _ _ _ _ _ hn hs.2)]
  · rw [if_neg (by decide), if_neg (by decide), if_neg (by decide), if_pos rfl]; unfold own_f0_171_3; rw [if_pos (own_kk3 _ _ _ _ _ _ _ hn hs.2)]
  · rw [if_neg (by decide), if_neg (by decide), if_neg (by decide), if_neg (by decide)]; unfold own_f0_171_4; rw [if_pos (own_kk4 _ _ _ _ _ _ _ hn hs.2)]
theorem own_k84 (v1 v2 v3 : Int32) (v4 : Int64) (v5 v6 v7 v8 : Int32) (v9 : Int64) (hn : 0 ≤ v5.toInt ∧ v5.toInt ≤ 4) (hs : 0 ≤ v6.toInt ∧ v6.toInt ≤ v5.toInt) : own_f0_84 v1 v2 v3 v4 v5 v6 v7 v8 v9 = 1 := by
  unfold own_f0_84
  simp only [own_k146 _ _ _ _ _ _ _ _ _ _ _ _ _ hn hs, ite_self]
theorem own_k62 (v1 v2 v3 : Int32) (v4 : Int64) (v5 v6 v7 v8 : Int32) (hn : 0 ≤ v5.toInt ∧ v5.toInt ≤ 4) (hs : 0 ≤ v6.toInt ∧ v6.toInt ≤ v5.toInt) : own_f0_62 v1 v2 v3 v4 v5 v6 v7 v8 = 1 := by
  unfold own_f0_62
  simp only [own_k84 _ _ _ _ _ _ _ _ _ hn hs, ite_self]
theorem own_law (q1 q2 q3 : Int32) (q4 : Int64) : own_f0 q1 q2 q3 q4 = 1 := by
  unfold own_f0
  simp only [own_k62 _ _ _ _ _ _ _ _ (own_nr q2) (own_sr _ _ (own_nr q2)), ite_self]
set_option maxRecDepth 65536 in
set_option maxHeartbeats 40000000 in
theorem comes_1 {Post : Tables → Env → Array Value → State → Outcome → State → Prop} (hpost : ∀ tb e args s v u, (limb_1_1.after args s (.returned v) u = true ∧ limb_1_2.after args s (.returned v) u = true ∧ True) → ReturnedEndW s (.returned v) u (Jvm.fieldLocs frame_1_writes args s ++ Jvm.arrayLocs frame_1_arrays args s ++ Jvm.staticLocs frame_1_statics s) 16 1152 → Post tb e args s (.returned v) u) :
    ArmFor flags0 classFile x code maxLocals ret World_1 tables_1 room_1 Calls_1 rest_1 Pre_1 Post := by
  intro l hfl _ _ p e ha hc hk s m args below hf hA hF happ hP
  obtain ⟨hcalls, hrest, hpre⟩ := hP
  obtain ⟨-, -, -, hnamed, -, -, -, hat⟩ := (Spec.applies_iff hf).mp happ
  obtain ⟨hg, hn⟩ := and_e (Cond.before_iff.mp (show (Jvm.Cond.and given_1 narrow_1).before args s = true from hpre))
  obtain ⟨gc, g0⟩ := and_e hg
  obtain ⟨gv0, g1⟩ := and_e g0
  obtain ⟨gv1, g2⟩ := and_e g1
  obtain ⟨gv2, g3⟩ := and_e g2
  have gv3 := g3
  obtain ⟨w0, w1, w2, w3, rfl⟩ : ∃ w0 w1 w2 w3 : Value, args = #[w0, w1, w2, w3] := by
    have hs : args.size = 4 := by simpa [Cond.value, given_1] using gc
    obtain ⟨L⟩ := args
    match L, hs with
    | [w0, w1, w2, w3], _ => exact ⟨w0, w1, w2, w3, rfl⟩
  have hw := fun d (hd : d ∈ tables_1) => atoms_spec (ws := Jvm.Cond.code x code maxLocals ret :: tables_1) hat d (List.mem_cons_of_mem _ hd)
  obtain ⟨i0, ei0⟩ := is_v gv0
  obtain rfl : w0 = (.int i0) := Option.some.inj ei0
  obtain ⟨i1, ei1⟩ := is_v gv1
  obtain rfl : w1 = (.int i1) := Option.some.inj ei1
  obtain ⟨i2, ei2⟩ := is_v gv2
  obtain rfl : w2 = (.int i2) := Option.some.inj ei2
  obtain ⟨i3, ei3⟩ := isL_v gv3
  obtain rfl : w3 = (.long i3) := Option.some.inj ei3
  obtain ⟨n, o, h1, h2, h3, _, L, rfl, ⟨rfl, N⟩, hq⟩ := rm0 l s _ hw tables_1 i0 i1 i2 i3 s.heap s.heap.size (Nat.le_refl _) own_law p e ha hc hk s m _ below hf ((Spec.applies_iff_loose hf).mp happ).1 ⟨rfl, State.Warmed39.refl s, rfl⟩ trivial
  refine ⟨n, _, h1, h2, h3, hpost _ _ _ _ _ _ ⟨Cond.after_iff.mpr rfl, Cond.after_iff.mpr (eq_i res_at (Term.int_eval (1)) rfl), trivial⟩ ⟨hq.1, hq.2.1, hq.2.2.1, (hq.2.2.2.sift fun y hy => Or.inr (N y hy)).mono (by decide) (by decide)⟩⟩
theorem main_1_1 : Claimed_1_1 := comes_1 fun _ _ _ _ _ _ h hF => ⟨h.1, hF⟩
theorem main_1_2 : Claimed_1_2 := comes_1 fun _ _ _ _ _ _ h hF => ⟨h.2.1, hF⟩
end Jvm.Pilot.@@N@@
namespace Jvm.Pilot.@@N@@
open Jvm Jvm.ClassFile Sem Op Lib Jvm.Free Jvm.Stand Jvm.Pilot.@@N@@.Jvm.D
/-! MADE BY PROGRAM (witnessworld.py) out of the Statement's table words and the real class files: 15 classes; the members and pool entries that the words name. The judged class is class 1, her method 1. -/
namespace start1
open Jvm.ClassFile
def u (s : String) : CpInfo := .utf8 (stringToUtf16 s)
/-- a pool by its gaps: so many unusable entries, then the entry; so many at the end -/
def gap : Nat → List CpInfo → List CpInfo
  | 0, r => r
  | n + 1, r => .unusable :: gap n r
def poolList (es : List (Nat × CpInfo)) (last : Nat) : List CpInfo := es.foldr (fun e r => gap e.1 (e.2 :: r)) (gap last [])
def pool (es : List (Nat × CpInfo)) (last : Nat) : Array CpInfo := ⟨poolList es last⟩
def fileOf (pool : Array CpInfo) (this : Nat) (attrs : Array Attribute := #[]) (ms : Array MethodInfo := #[]) (fl : Nat := 33) (sup : Nat := 0) (ifs : Array Nat := #[]) (fds : Array FieldInfo := #[]) : ClassFile where
  minorVersion := 0
  majorVersion := 65
  constantPool := pool
  accessFlags := fl
  thisClass := this
  superClass := sup
  interfaces := ifs
  fields := fds
  methods := ms
  attributes := attrs
def plain (name : String) (sup : Option ClassId) : Class where
  name := name
  kind := .ordinary
  loader := none
  accessFlags := 33
  super := sup
  interfaces := #[]
  cf := none
  fields := #[]
  methods := #[]
  instanceTypes := #[]
  staticTypes := #[]
  resolved := #[]
  callSites := []
  init := .initialized
  statics := none
  mirror := none

def pool0 : Array CpInfo := pool [(5, u "<init>"), (0, u "()V"), (1, .class_ 10), (1, u "java/lang/Object")] 113

def k0c0 : Code := { maxStack := 0, maxLocals := 1, code := object_method_1_code, exceptionTable := #[], attributes := #[] }
def k0m0 : Method := { name := "<init>", desc := "()V", sig := { parameters := [], returnType := none }, accessFlags := 1, code := some k0c0 }
/-- java/lang/Object -/
def k0 : Class := { plain "java/lang/Object" none with
  accessFlags := 33
  interfaces := #[]
  cf := some (fileOf pool0 8 #[] #[{ accessFlags := 1, nameIndex := 5, descriptorIndex := 6, attributes := #[] }] 33 0 #[] #[])
  fields := #[]
  methods := #[k0m0]
  instanceTypes := #[]
  staticTypes := #[]
  resolved := Array.replicate 124 none
  statics := none }

def pool1 : Array CpInfo := pool [(2, .class_ 4), (1, u "java/lang/Object"), (0, u "<init>"), (0, u "()V"), (0, .long 6), (1, .class_ 10), (0, u "com/example/typewire/typewire/packet/BitInput"), (0, .methodref 9 12), (0, .nameAndType 5 13), (0, u "([B)V"), (0, .string 15), (0, u "skip"), (0, .methodref 9 17), (0, .nameAndType 18 19), (0, u "readBits"), (0, u "(ILjava/lang/String;)J"), (0, .methodref 9 21), (0, .nameAndType 22 23), (0, u "bytesBefore"), (0, u "(IJ)J"), (0, .methodref 25 26), (0, .class_ 27), (0, .nameAndType 28 29), (0, u "com/example/typewire/typewire/packet/BitInputBytesBeforePinLaw"), (0, u "expected"), (0, u "([BIIIJ)J"), (0, .methodref 9 31), (0, .nameAndType 32 33), (0, u "position"), (0, u "()J"), (0, .long 8), (1, .methodref 25 37), (0, .nameAndType 38 39), (0, u "hit"), (0, u "([BIIIJI)Z"), (0, .long 18446744073709551615), (3, u "law"), (0, u "(IIIJ)Z")] 8

def k1m0 : Method := { name := "<init>", desc := "()V", sig := { parameters := [], returnType := none }, accessFlags := 1, code := none }
def k1c1 : Code := { maxStack := 8, maxLocals := 15, code := code, exceptionTable := #[], attributes := #[] }
def k1m1 : Method := { name := "law", desc := "(IIIJ)Z", sig := { parameters := [.int, .int, .int, .long], returnType := some .boolean }, accessFlags := 9, code := some k1c1 }
def k1c2 : Code := { maxStack := 4, maxLocals := 7, code := method_3_code, exceptionTable := #[], attributes := #[] }
def k1m2 : Method := { name := "hit", desc := "([BIIIJI)Z", sig := { parameters := [(.array .byte), .int, .int, .int, .long, .int], returnType := some .boolean }, accessFlags := 10, code := some k1c2 }
def k1c3 : Code := { maxStack := 7, maxLocals := 6, code := method_4_code, exceptionTable := #[], attributes := #[] }
def k1m3 : Method := { name := "expected", desc := "([BIIIJ)J", sig := { parameters := [(.array .byte), .int, .int, .int, .long], returnType := some .long }, accessFlags := 10, code := some k1c3 }
/-- com/example/typewire/typewire/packet/BitInputBytesBeforePinLaw -/
def k1 : Class := { plain "com/example/typewire/typewire/packet/BitInputBytesBeforePinLaw" (some 0) with
  accessFlags := 49
  interfaces := #[]
  cf := some (fileOf pool1 25 #[] #[{ accessFlags := 1, nameIndex := 5, descriptorIndex := 6, attributes := #[] }, { accessFlags := 9, nameIndex := 44, descriptorIndex := 45, attributes := #[] }, { accessFlags := 10, nameIndex := 38, descriptorIndex := 39, attributes := #[] }, { accessFlags := 10, nameIndex := 28, descriptorIndex := 29, attributes := #[] }] 49 2 #[] #[])
  fields := #[]
  methods := #[k1m0, k1m1, k1m2, k1m3]
  instanceTypes := #[]
  staticTypes := #[]
  resolved := Array.replicate 54 none
  statics := none }

def pool2 : Array CpInfo := pool [(1, .methodref 2 3), (0, .class_ 4), (0, .nameAndType 5 6), (0, u "java/lang/Object"), (0, u "<init>"), (0, u "()V"), (0, .fieldref 8 9), (0, .class_ 10), (0, .nameAndType 11 12), (0, u "com/example/typewire/typewire/packet/BitInput"), (0, u "bytes"), (0, u "[B"), (0, .fieldref 8 14), (0, .nameAndType 15 16), (0, u "position"), (0, u "J"), (0, .methodref 8 18), (0, .nameAndType 19 20), (0, u "bitsLeft"), (0, u "()J"), (10, .long 8), (1, .methodref 34 35), (0, .class_ 36), (0, .nameAndType 37 38), (0, u "java/lang/Math"), (0, u "min"), (0, u "(II)I"), (10, .long 18446744073709551615), (17, u "([B)V"), (2, u "readBits"), (0, u "(ILjava/lang/String;)J"), (4, u "bytesBefore"), (0, u "(IJ)J")] 28

def k2c0 : Code := { maxStack := 2, maxLocals := 2, code := prog_12_method_1_code, exceptionTable := #[], attributes := #[] }
def k2m0 : Method := { name := "<init>", desc := "([B)V", sig := { parameters := [(.array .byte)], returnType := none }, accessFlags := 0, code := some k2c0 }
def k2c1 : Code := { maxStack := 2, maxLocals := 1, code := prog_12_method_2_code, exceptionTable := #[], attributes := #[] }
def k2m1 : Method := { name := "position", desc := "()J", sig := { parameters := [], returnType := some .long }, accessFlags := 0, code := some k2c1 }
def k2c2 : Code := { maxStack := 6, maxLocals := 12, code := prog_12_method_3_code, exceptionTable := #[], attributes := #[] }
def k2m2 : Method := { name := "readBits", desc := "(ILjava/lang/String;)J", sig := { parameters := [.int, (.object "java/lang/String")], returnType := some .long }, accessFlags := 0, code := some k2c2 }
def k2c3 : Code := { maxStack := 4, maxLocals := 10, code := prog_12_method_5_code, exceptionTable := #[], attributes := #[] }
def k2m3 : Method := { name := "bytesBefore", desc := "(IJ)J", sig := { parameters := [.int, .long], returnType := some .long }, accessFlags := 0, code := some k2c3 }
def k2c4 : Code := { maxStack := 4, maxLocals := 1, code := prog_12_method_9_code, exceptionTable := #[], attributes := #[] }
def k2m4 : Method := { name := "bitsLeft", desc := "()J", sig := { parameters := [], returnType := some .long }, accessFlags := 2, code := some k2c4 }
/-- com/example/typewire/typewire/packet/BitInput -/
def k2 : Class := { plain "com/example/typewire/typewire/packet/BitInput" (some 0) with
  accessFlags := 48
  interfaces := #[]
  cf := some (fileOf pool2 8 #[] #[{ accessFlags := 0, nameIndex := 5, descriptorIndex := 67, attributes := #[] }, { accessFlags := 0, nameIndex := 15, descriptorIndex := 20, attributes := #[] }, { accessFlags := 0, nameIndex := 70, descriptorIndex := 71, attributes := #[] }, { accessFlags := 0, nameIndex := 76, descriptorIndex := 77, attributes := #[] }, { accessFlags := 2, nameIndex := 19, descriptorIndex := 20, attributes := #[] }] 48 2 #[] #[{ accessFlags := 18, nameIndex := 11, descriptorIndex := 12, attributes := #[] }, { accessFlags := 2, nameIndex := 15, descriptorIndex := 16, attributes := #[] }])
  fields := #[{ name := "bytes", type := (.array .byte), accessFlags := 18, slot := 0, constantValue := 0 }, { name := "position", type := .long, accessFlags := 2, slot := 1, constantValue := 0 }]
  methods := #[k2m0, k2m1, k2m2, k2m3, k2m4]
  instanceTypes := #[(.array .byte), .long]
  staticTypes := #[]
  resolved := Array.replicate 106 none
  statics := none }

def pool3 : Array CpInfo := pool [(1, .class_ 2), (0, u "java/io/Serializable"), (0, .class_ 4), (0, u "java/lang/Object")] 2

/-- java/io/Serializable -/
def k3 : Class := { plain "java/io/Serializable" (some 0) with
  accessFlags := 1537
  interfaces := #[]
  cf := some (fileOf pool3 1 #[] #[] 1537 3 #[] #[])
  fields := #[]
  methods := #[]
  instanceTypes := #[]
  staticTypes := #[]
  resolved := Array.replicate 7 none
  statics := none }

def pool4 : Array CpInfo := pool [(1, .class_ 2), (0, u "java/lang/Comparable"), (0, .class_ 4), (0, u "java/lang/Object")] 7

/-- java/lang/Comparable -/
def k4 : Class := { plain "java/lang/Comparable" (some 0) with
  accessFlags := 1537
  interfaces := #[]
  cf := some (fileOf pool4 1 #[] #[] 1537 3 #[] #[])
  fields := #[]
  methods := #[]
  instanceTypes := #[]
  staticTypes := #[]
  resolved := Array.replicate 12 none
  statics := none }

def pool5 : Array CpInfo := pool [(2, .class_ 4), (1, u "java/lang/CharSequence"), (42, .class_ 48), (0, u "java/lang/CharSequence$1CodePointIterator"), (10, .class_ 60), (0, u "java/lang/CharSequence$1CharIterator"), (5, .class_ 67), (0, u "java/lang/Object")] 63

/-- java/lang/CharSequence -/
def k5 : Class := { plain "java/lang/CharSequence" (some 0) with
  accessFlags := 1537
  interfaces := #[]
  cf := some (fileOf pool5 2 #[.nestMembers #[47, 59]] #[] 1537 66 #[] #[])
  fields := #[]
  methods := #[]
  instanceTypes := #[]
  staticTypes := #[]
  resolved := Array.replicate 131 none
  statics := none }

def pool6 : Array CpInfo := pool [(1, .class_ 2), (0, u "java/lang/constant/Constable"), (0, .class_ 4), (0, u "java/lang/Object")] 6

/-- java/lang/constant/Constable -/
def k6 : Class := { plain "java/lang/constant/Constable" (some 0) with
  accessFlags := 1537
  interfaces := #[]
  cf := some (fileOf pool6 1 #[] #[] 1537 3 #[] #[])
  fields := #[]
  methods := #[]
  instanceTypes := #[]
  staticTypes := #[]
  resolved := Array.replicate 11 none
  statics := none }

def pool7 : Array CpInfo := pool [(1, .class_ 2), (0, u "java/lang/constant/ConstantDesc"), (0, .class_ 4), (0, u "java/lang/Object")] 32

/-- java/lang/constant/ConstantDesc -/
def k7 : Class := { plain "java/lang/constant/ConstantDesc" (some 0) with
  accessFlags := 1537
  interfaces := #[]
  cf := some (fileOf pool7 1 #[] #[] 1537 3 #[] #[])
  fields := #[]
  methods := #[]
  instanceTypes := #[]
  staticTypes := #[]
  resolved := Array.replicate 37 none
  statics := none }

def pool8 : Array CpInfo := pool [(2, .class_ 4), (1, u "java/lang/Object"), (0, u "<init>"), (0, u "()V"), (3, .class_ 12), (1, u "java/lang/String"), (0, u "value"), (0, u "[B"), (2, u "coder"), (0, u "B"), (2, u "hash"), (0, u "I"), (2, u "hashIsZero"), (0, u "Z"), (13, u "COMPACT_STRINGS"), (534, .class_ 576), (0, u "java/lang/CharSequence"), (22, u "CASE_INSENSITIVE_ORDER"), (0, u "Ljava/util/Comparator;"), (500, u "serialPersistentFields"), (0, u "[Ljava/io/ObjectStreamField;"), (0, .class_ 1104), (0, u "java/lang/String$CaseInsensitiveComparator"), (1, .class_ 1107), (0, u "java/io/Serializable"), (0, .class_ 1109), (0, u "java/lang/Comparable"), (0, .class_ 1111), (0, u "java/lang/constant/Constable"), (0, .class_ 1113), (0, u "java/lang/constant/ConstantDesc"), (2, u "serialVersionUID"), (0, u "J"), (3, u "REPL"), (0, u "C"), (2, u "LATIN1"), (1, u "UTF16")] 323

def k8m0 : Method := { name := "<init>", desc := "()V", sig := { parameters := [], returnType := none }, accessFlags := 1, code := none }
/-- java/lang/String -/
def k8 : Class := { plain "java/lang/String" (some 0) with
  accessFlags := 49
  interfaces := #[3, 4, 5, 6, 7]
  cf := some (fileOf pool8 10 #[.nestMembers #[1103]] #[{ accessFlags := 1, nameIndex := 5, descriptorIndex := 6, attributes := #[] }] 49 2 #[1106, 1108, 575, 1110, 1112] #[{ accessFlags := 18, nameIndex := 13, descriptorIndex := 14, attributes := #[] }, { accessFlags := 18, nameIndex := 17, descriptorIndex := 18, attributes := #[] }, { accessFlags := 2, nameIndex := 21, descriptorIndex := 22, attributes := #[] }, { accessFlags := 2, nameIndex := 25, descriptorIndex := 26, attributes := #[] }, { accessFlags := 26, nameIndex := 1116, descriptorIndex := 1117, attributes := #[] }, { accessFlags := 24, nameIndex := 40, descriptorIndex := 26, attributes := #[] }, { accessFlags := 26, nameIndex := 1101, descriptorIndex := 1102, attributes := #[] }, { accessFlags := 26, nameIndex := 1121, descriptorIndex := 1122, attributes := #[] }, { accessFlags := 25, nameIndex := 599, descriptorIndex := 600, attributes := #[] }, { accessFlags := 24, nameIndex := 1125, descriptorIndex := 18, attributes := #[] }, { accessFlags := 24, nameIndex := 1127, descriptorIndex := 18, attributes := #[] }])
  fields := #[{ name := "value", type := (.array .byte), accessFlags := 18, slot := 0, constantValue := 0 }, { name := "coder", type := .byte, accessFlags := 18, slot := 1, constantValue := 0 }, { name := "hash", type := .int, accessFlags := 2, slot := 2, constantValue := 0 }, { name := "hashIsZero", type := .boolean, accessFlags := 2, slot := 3, constantValue := 0 }, { name := "serialVersionUID", type := .long, accessFlags := 26, slot := 0, constantValue := 0 }, { name := "COMPACT_STRINGS", type := .boolean, accessFlags := 24, slot := 1, constantValue := 0 }, { name := "serialPersistentFields", type := (.array (.object "java/io/ObjectStreamField")), accessFlags := 26, slot := 2, constantValue := 0 }, { name := "REPL", type := .char, accessFlags := 26, slot := 3, constantValue := 0 }, { name := "CASE_INSENSITIVE_ORDER", type := (.object "java/util/Comparator"), accessFlags := 25, slot := 4, constantValue := 0 }, { name := "LATIN1", type := .byte, accessFlags := 24, slot := 5, constantValue := 0 }, { name := "UTF16", type := .byte, accessFlags := 24, slot := 6, constantValue := 0 }]
  methods := #[k8m0]
  instanceTypes := #[(.array .byte), .byte, .int, .boolean]
  staticTypes := #[.long, .boolean, (.array (.object "java/io/ObjectStreamField")), .char, (.object "java/util/Comparator"), .byte, .byte]
  resolved := Array.replicate 1451 none
  statics := none }

def pool9 : Array CpInfo := pool [(1, .class_ 2), (0, u "java/lang/Math"), (1, .class_ 6), (1, u "java/lang/Object"), (0, u "<init>"), (0, u "()V"), (89, .class_ 100), (1, u "java/lang/Math$RandomNumberGeneratorHolder"), (71, u "negativeZeroFloatBits"), (0, u "J"), (2, u "negativeZeroDoubleBits"), (24, u "min"), (43, u "$assertionsDisabled"), (0, u "Z"), (88, u "(II)I"), (2, u "twoToTheDoubleScaleDown"), (0, u "D"), (4, u "twoToTheDoubleScaleUp"), (9, u "E"), (3, u "PI"), (2, u "TAU"), (2, u "DEGREES_TO_RADIANS"), (0, u "RADIANS_TO_DEGREES")] 94

def k9m0 : Method := { name := "<init>", desc := "()V", sig := { parameters := [], returnType := none }, accessFlags := 2, code := none }
def k9c1 : Code := { maxStack := 2, maxLocals := 2, code := jdk_29_method_69_code, exceptionTable := #[], attributes := #[] }
def k9m1 : Method := { name := "min", desc := "(II)I", sig := { parameters := [.int, .int], returnType := some .int }, accessFlags := 9, code := some k9c1 }
/-- java/lang/Math -/
def k9 : Class := { plain "java/lang/Math" (some 0) with
  accessFlags := 49
  interfaces := #[]
  cf := some (fileOf pool9 1 #[.nestMembers #[98]] #[{ accessFlags := 2, nameIndex := 7, descriptorIndex := 8, attributes := #[] }, { accessFlags := 9, nameIndex := 201, descriptorIndex := 335, attributes := #[] }] 49 4 #[] #[{ accessFlags := 25, nameIndex := 354, descriptorIndex := 339, attributes := #[] }, { accessFlags := 25, nameIndex := 358, descriptorIndex := 339, attributes := #[] }, { accessFlags := 25, nameIndex := 361, descriptorIndex := 339, attributes := #[] }, { accessFlags := 26, nameIndex := 364, descriptorIndex := 339, attributes := #[] }, { accessFlags := 26, nameIndex := 365, descriptorIndex := 339, attributes := #[] }, { accessFlags := 26, nameIndex := 172, descriptorIndex := 173, attributes := #[] }, { accessFlags := 26, nameIndex := 176, descriptorIndex := 173, attributes := #[] }, { accessFlags := 8, nameIndex := 344, descriptorIndex := 339, attributes := #[] }, { accessFlags := 8, nameIndex := 338, descriptorIndex := 339, attributes := #[] }, { accessFlags := 4120, nameIndex := 245, descriptorIndex := 246, attributes := #[] }])
  fields := #[{ name := "E", type := .double, accessFlags := 25, slot := 0, constantValue := 0 }, { name := "PI", type := .double, accessFlags := 25, slot := 1, constantValue := 0 }, { name := "TAU", type := .double, accessFlags := 25, slot := 2, constantValue := 0 }, { name := "DEGREES_TO_RADIANS", type := .double, accessFlags := 26, slot := 3, constantValue := 0 }, { name := "RADIANS_TO_DEGREES", type := .double, accessFlags := 26, slot := 4, constantValue := 0 }, { name := "negativeZeroFloatBits", type := .long, accessFlags := 26, slot := 5, constantValue := 0 }, { name := "negativeZeroDoubleBits", type := .long, accessFlags := 26, slot := 6, constantValue := 0 }, { name := "twoToTheDoubleScaleUp", type := .double, accessFlags := 8, slot := 7, constantValue := 0 }, { name := "twoToTheDoubleScaleDown", type := .double, accessFlags := 8, slot := 8, constantValue := 0 }, { name := "$assertionsDisabled", type := .boolean, accessFlags := 4120, slot := 9, constantValue := 0 }]
  methods := #[k9m0, k9m1]
  instanceTypes := #[]
  staticTypes := #[.double, .double, .double, .double, .double, .long, .long, .double, .double, .boolean]
  resolved := Array.replicate 460 none
  statics := none }

def pool10 : Array CpInfo := pool [(1, u "java/lang/Cloneable"), (0, .class_ 1), (0, u "java/lang/Object"), (0, .class_ 3)] 3

/-- java/lang/Cloneable -/
def k10 : Class := { plain "java/lang/Cloneable" (some 0) with
  accessFlags := 1537
  interfaces := #[]
  cf := some (fileOf pool10 2 #[] #[] 1537 4 #[] #[])
  fields := #[]
  methods := #[]
  instanceTypes := #[]
  staticTypes := #[]
  resolved := Array.replicate 8 none
  statics := none }

/-- the primitive byte -/
def k11 : Class := { plain "byte" none with kind := .primitive 'B', accessFlags := 0x411 }
/-- [B -/
def k12 : Class := { plain "[B" (some 0) with kind := .array 11 .byte, interfaces := #[10, 3], accessFlags := 1041 }

/-- the primitive int -/
def k13 : Class := { plain "int" none with kind := .primitive 'I', accessFlags := 0x411 }
/-- [I -/
def k14 : Class := { plain "[I" (some 0) with kind := .array 13 .int, interfaces := #[10, 3], accessFlags := 1041 }

def heap : Heap := #[]
def classes : Array Class := #[k0, k1, k2, k3, k4, k5, k6, k7, k8, k9, k10, k11, k12, k13, k14]
def interned : List (Array UInt16 × Addr) := []
def slotsUsed : Nat := 0
def theMethod : MethodId := ⟨1, 1⟩
def args0 : Array Value := #[.int 5, .int 500, .int 3, .long 7]
def aboutOver (below : List Frame) : State where
  vm := { classes := classes, interned := interned.toArray }
  heap := heap
  slotsUsed := slotsUsed
  threads := #[{ frames := .invoking theMethod args0 :: below }]
def below0 : List Frame := [.native { method := ⟨0, 0⟩, args := #[] }]
def about1 : State := aboutOver below0
def p0 : Program := .bare "" "" ""
def e0 : Env := launch0.env 0 0 0
theorem w_frames : about1.frames = Frame.invoking theMethod args0 :: below0 := rfl
set_option maxRecDepth 65536 in
theorem w_args : argsFit about1.vm theMethod args0 = true := by decide +kernel
set_option maxRecDepth 65536 in
theorem w_heap : heapFits about1 = true := by decide +kernel
set_option maxRecDepth 65536 in
theorem w_runnable : about1.curStatus? = some .runnable := by decide +kernel
set_option maxRecDepth 65536 in
theorem w_alone : about1.alone = true := by decide +kernel
set_option maxRecDepth 65536 in
theorem w_named : about1.methodNamed? x = some theMethod := by decide +kernel
set_option maxRecDepth 65536 in
theorem w_hears : about1.hears theMethod below0 = true := by decide +kernel
set_option maxRecDepth 65536 in
theorem w_ripe : about1.ripe theMethod args0 below0 = true := by decide +kernel
theorem w_running : about1.status = .running := rfl
set_option maxRecDepth 65536 in
theorem w_room : about1.hasRoom e0.platform room_1 = true :=
  launch0.hasRoom_least _ room_1 (by decide +kernel) (by decide +kernel) (by decide +kernel) (by decide +kernel) (by decide +kernel) (by decide +kernel)
theorem allAtoms_all (ts : List Jvm.Cond) (a : Array Jvm.Value) (st : Jvm.State) : (allAtoms ts).before a st = ts.all (fun c => c.before a st) := by
  induction ts with
  | nil => rfl
  | cons c t ih =>
    show (Jvm.Cond.and c (allAtoms t)).before a st = _
    rw [Jvm.Cond.before_and, ih, List.all_cons]
def words1 : List Jvm.Cond := Jvm.Cond.code x code maxLocals ret :: tables_1
/-- a 'code' word, met by the world's own term for the bytes: nothing is compared byte by byte -/
theorem code_word {y : MethodName} {bytes : ByteArray} {mx : Nat} {rt : Option FieldType} {a : Array Value} {s : State} {m : MethodId} {meth : Method} {c : Code} (h1 : s.methodNamed? y = some m) (h2 : s.vm.method? m = some meth) (h3 : meth.code = some c) (h4 : c.code = bytes)
    (h5 : (c.maxLocals == mx && c.exceptionTable.isEmpty && decide (c.maxStack ≤ mostOperands) && decide (meth.sig.returnType = rt) && !meth.locks && decide (parseMethodDescriptor y.desc = some meth.sig)) = true) : (Jvm.Cond.code y bytes mx rt).before a s = true := by
  simp only [Bool.and_eq_true, beq_iff_eq, Bool.not_eq_true', decide_eq_true_eq] at h5
  obtain ⟨⟨⟨⟨⟨g1, g2⟩, g3⟩, g4⟩, g5⟩, g6⟩ := h5
  simp [Cond.before, Cond.holds, Cond.value, h1, h2, h3, h4, g1, g2, g3, g4, g5, g6]
def isCode : Jvm.Cond → Bool
  | .code _ _ _ _ => true
  | _ => false
theorem all_split {L : List Jvm.Cond} {P : Jvm.Cond → Bool} (h1 : L.all (fun c => isCode c || P c) = true) (h2 : ∀ c ∈ L.filter isCode, P c = true) : L.all P = true := by
  refine List.all_eq_true.mpr fun c hc => ?_
  have h := List.all_eq_true.mp h1 c hc
  rcases Bool.eq_false_or_eq_true (isCode c) with hi | hi
  · exact h2 c (List.mem_filter.mpr ⟨hc, hi⟩)
  · simpa [hi] using h
set_option maxRecDepth 65536 in
theorem w_c0 : (Jvm.Cond.code x code maxLocals ret).before args0 about1 = true := code_word (m := ⟨1, 1⟩) (meth := k1m1) (c := k1c1) (by decide +kernel) rfl rfl rfl (by decide +kernel)
set_option maxRecDepth 65536 in
theorem w_c1 : (Jvm.Cond.code ({ cls := "com/example/typewire/typewire/packet/BitInput", name := "<init>", desc := "([B)V" } : Jvm.MethodName) prog_12_method_1_code (2 : Nat) (Option.none : Option Jvm.ClassFile.FieldType)).before args0 about1 = true := code_word (m := ⟨2, 0⟩) (meth := k2m0) (c := k2c0) (by decide +kernel) rfl rfl rfl (by decide +kernel)
set_option maxRecDepth 65536 in
theorem w_c2 : (Jvm.Cond.code ({ cls := "java/lang/Object", name := "<init>", desc := "()V" } : Jvm.MethodName) object_method_1_code (1 : Nat) (Option.none : Option Jvm.ClassFile.FieldType)).before args0 about1 = true := code_word (m := ⟨0, 0⟩) (meth := k0m0) (c := k0c0) (by decide +kernel) rfl rfl rfl (by decide +kernel)
set_option maxRecDepth 65536 in
theorem w_c3 : (Jvm.Cond.code ({ cls := "com/example/typewire/typewire/packet/BitInput", name := "bytesBefore", desc := "(IJ)J" } : Jvm.MethodName) prog_12_method_5_code (10 : Nat) (Option.some Jvm.ClassFile.FieldType.long)).before args0 about1 = true := code_word (m := ⟨2, 3⟩) (meth := k2m3) (c := k2c3) (by decide +kernel) rfl rfl rfl (by decide +kernel)
set_option maxRecDepth 65536 in
theorem w_c4 : (Jvm.Cond.code ({ cls := "com/example/typewire/typewire/packet/BitInputBytesBeforePinLaw", name := "expected", desc := "([BIIIJ)J" } : Jvm.MethodName) method_4_code (6 : Nat) (Option.some Jvm.ClassFile.FieldType.long)).before args0 about1 = true := code_word (m := ⟨1, 3⟩) (meth := k1m3) (c := k1c3) (by decide +kernel) rfl rfl rfl (by decide +kernel)
set_option maxRecDepth 65536 in
theorem w_c5 : (Jvm.Cond.code ({ cls := "com/example/typewire/typewire/packet/BitInputBytesBeforePinLaw", name := "hit", desc := "([BIIIJI)Z" } : Jvm.MethodName) method_3_code (7 : Nat) (Option.some Jvm.ClassFile.FieldType.boolean)).before args0 about1 = true := code_word (m := ⟨1, 2⟩) (meth := k1m2) (c := k1c2) (by decide +kernel) rfl rfl rfl (by decide +kernel)
set_option maxRecDepth 65536 in
theorem w_c6 : (Jvm.Cond.code ({ cls := "com/example/typewire/typewire/packet/BitInput", name := "position", desc := "()J" } : Jvm.MethodName) prog_12_method_2_code (1 : Nat) (Option.some Jvm.ClassFile.FieldType.long)).before args0 about1 = true := code_word (m := ⟨2, 1⟩) (meth := k2m1) (c := k2c1) (by decide +kernel) rfl rfl rfl (by decide +kernel)
set_option maxRecDepth 65536 in
theorem w_c7 : (Jvm.Cond.code ({ cls := "com/example/typewire/typewire/packet/BitInput", name := "readBits", desc := "(ILjava/lang/String;)J" } : Jvm.MethodName) prog_12_method_3_code (12 : Nat) (Option.some Jvm.ClassFile.FieldType.long)).before args0 about1 = true := code_word (m := ⟨2, 2⟩) (meth := k2m2) (c := k2c2) (by decide +kernel) rfl rfl rfl (by decide +kernel)
set_option maxRecDepth 65536 in
theorem w_c8 : (Jvm.Cond.code ({ cls := "com/example/typewire/typewire/packet/BitInput", name := "bitsLeft", desc := "()J" } : Jvm.MethodName) prog_12_method_9_code (1 : Nat) (Option.some Jvm.ClassFile.FieldType.long)).before args0 about1 = true := code_word (m := ⟨2, 4⟩) (meth := k2m4) (c := k2c4) (by decide +kernel) rfl rfl rfl (by decide +kernel)
set_option maxRecDepth 65536 in
theorem w_c9 : (Jvm.Cond.code ({ cls := "java/lang/Math", name := "min", desc := "(II)I" } : Jvm.MethodName) jdk_29_method_69_code (2 : Nat) (Option.some Jvm.ClassFile.FieldType.int)).before args0 about1 = true := code_word (m := ⟨9, 1⟩) (meth := k9m1) (c := k9c1) (by decide +kernel) rfl rfl rfl (by decide +kernel)
def codes1 : List Jvm.Cond := [Jvm.Cond.code x code maxLocals ret, Jvm.Cond.code ({ cls := "com/example/typewire/typewire/packet/BitInput", name := "<init>", desc := "([B)V" } : Jvm.MethodName) prog_12_method_1_code (2 : Nat) (Option.none : Option Jvm.ClassFile.FieldType), Jvm.Cond.code ({ cls := "java/lang/Object", name := "<init>", desc := "()V" } : Jvm.MethodName) object_method_1_code (1 : Nat) (Option.none : Option Jvm.ClassFile.FieldType), Jvm.Cond.code ({ cls := "com/example/typewire/typewire/packet/BitInput", name := "bytesBefore", desc := "(IJ)J" } : Jvm.MethodName) prog_12_method_5_code (10 : Nat) (Option.some Jvm.ClassFile.FieldType.long), Jvm.Cond.code ({ cls := "com/example/typewire/typewire/packet/BitInputBytesBeforePinLaw", name := "expected", desc := "([BIIIJ)J" } : Jvm.MethodName) method_4_code (6 : Nat) (Option.some Jvm.ClassFile.FieldType.long), Jvm.Cond.code ({ cls := "com/example/typewire/typewire/packet/BitInputBytesBeforePinLaw", name := "hit", desc := "([BIIIJI)Z" } : Jvm.MethodName) method_3_code (7 : Nat) (Option.some Jvm.ClassFile.FieldType.boolean), Jvm.Cond.code ({ cls := "com/example/typewire/typewire/packet/BitInput", name := "position", desc := "()J" } : Jvm.MethodName) prog_12_method_2_code (1 : Nat) (Option.some Jvm.ClassFile.FieldType.long), Jvm.Cond.code ({ cls := "com/example/typewire/typewire/packet/BitInput", name := "readBits", desc := "(ILjava/lang/String;)J" } : Jvm.MethodName) prog_12_method_3_code (12 : Nat) (Option.some Jvm.ClassFile.FieldType.long), Jvm.Cond.code ({ cls := "com/example/typewire/typewire/packet/BitInput", name := "bitsLeft", desc := "()J" } : Jvm.MethodName) prog_12_method_9_code (1 : Nat) (Option.some Jvm.ClassFile.FieldType.long), Jvm.Cond.code ({ cls := "java/lang/Math", name := "min", desc := "(II)I" } : Jvm.MethodName) jdk_29_method_69_code (2 : Nat) (Option.some Jvm.ClassFile.FieldType.int)]
set_option maxRecDepth 65536 in
theorem codes_eq : words1.filter isCode = codes1 := rfl
theorem w_codes : ∀ c ∈ words1.filter isCode, c.before args0 about1 = true := by
  rw [codes_eq]
  intro c hc
  simp only [codes1, List.mem_cons, List.not_mem_nil, or_false] at hc
  rcases hc with rfl | rfl | rfl | rfl | rfl | rfl | rfl | rfl | rfl | rfl
  · exact w_c0
  · exact w_c1
  · exact w_c2
  · exact w_c3
  · exact w_c4
  · exact w_c5
  · exact w_c6
  · exact w_c7
  · exact w_c8
  · exact w_c9
set_option maxRecDepth 65536 in
theorem w_t1 : (words1.take 24).all (fun c => isCode c || c.before args0 about1) = true := by decide +kernel
set_option maxRecDepth 65536 in
theorem w_t2 : ((words1.drop 24).take 24).all (fun c => isCode c || c.before args0 about1) = true := by decide +kernel
set_option maxRecDepth 65536 in
theorem w_t3 : ((words1.drop 24).drop 24).all (fun c => isCode c || c.before args0 about1) = true := by decide +kernel
theorem w_tables : (allAtoms (Jvm.Cond.code x code maxLocals ret :: tables_1)).before args0 about1 = true := by
  rw [allAtoms_all]
  show words1.all (fun c => c.before args0 about1) = true
  refine all_split ?_ w_codes
  rw [← List.take_append_drop 24 words1, List.all_append, w_t1, ← List.take_append_drop 24 (words1.drop 24), List.all_append, w_t2, w_t3]
  rfl
set_option maxRecDepth 65536 in
theorem w_case : (Jvm.Cond.and given_1 narrow_1).before args0 about1 = true := by decide +kernel
theorem w_applies : (headSpec (Jvm.Cond.code x code maxLocals ret :: tables_1) room_1).applies x e0.platform about1 = true :=
  (Spec.applies_iff w_frames).mpr ⟨w_running, w_runnable, w_alone, w_named, w_hears, w_ripe, w_room, w_tables⟩
theorem atStart : AtStart classFile x code maxLocals ret World_1 tables_1 room_1 Calls_1 rest_1 Pre_1 launch0 p0 e0 about1 theMethod args0 below0 :=
  ⟨lists_1, trivial, launch0.admits_env _ _ _, launch0.least_env, fairChoices_fair.cas, fairChoices_fair.clock, w_frames, w_args, w_heap, w_applies, trivial, trivial, w_case⟩
end start1
theorem witness_1 : WitnessClaimed_1 := ⟨start1.p0, start1.e0, start1.about1, start1.theMethod, start1.args0, start1.below0, start1.atStart⟩
end Jvm.Pilot.@@N@@
