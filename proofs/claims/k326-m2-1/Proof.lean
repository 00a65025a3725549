import JvmDerived
import JvmDerived.Pilot.@@N@@Statement
import JvmDerived.Pilot.@@N@@Code
set_option linter.unusedVariables false
set_option linter.unusedSimpArgs false
@@BLOCK:NumsL.lean.txt@@
namespace Jvm.RoadKit
open Sem ClassFile Op Lib Jvm.Stand Jvm.Free Jvm.LawKit
section New
variable {p : Program} {l : Launch} {e : Env} {R : Room} {s : State} {m : MethodId} {args : Array Value} {below : List Frame} {meth : Method} {c : Code} {T : State} {locs : List Loc} {cells slots : Nat}
theorem retI (X : Stand p l e R s m args below meth c T locs cells slots) (hx : p.tables.exec = Jvm.exec) {pc : Nat} {Ls : Array Slot} {z : Int32} {rest : List Value} (hret : meth.sig.returnType = some .int) (hd : decode c.code pc = .ok (.ireturn, 1)) {fs : List Frame}
    (hl : ∀ (f : JFrame) (acts : List Action), f.method = m → f.locked = none → f.entered = [] → (doReturn e (T.setTop f) acts (some (.int z))).1 = T.setFrames fs) : Steps p.tables e below (T.setTop (mkF m pc Ls (.int z :: rest))) (T.setFrames fs) := by
  have hm' : T.vm.method? m = some meth := X.method'
  have hn : narrow .int (.int z) = .int z := rfl
  show Steps p.tables e below (T.setTop { method := m, pc := pc, locals := Ls, stack := _ :: rest, locked := none }) _
  jvm_step X.here [X.here.top, hx, hd, hm', hret, hn]
  first | (intro acts; rw [hl _ acts rfl rfl rfl]) | rw [hl _ _ rfl rfl rfl]
  exact Steps.refl _
end New
end Jvm.RoadKit
namespace Jvm.Pilot.@@N@@
open Jvm Jvm.ClassFile Sem Op Lib Jvm.Free Jvm.Stand Jvm.LawKit Jvm.RoadKit Bundle Jvm.Pilot.@@N@@.Jvm.D
/-- the run from this frame comes to an end that R takes -/
def own_Fin (tb : Tables) (e : Env) (below : List Frame) (R : State → Prop) (T : State) (g : JFrame) : Prop := ∃ t, Steps tb e below (T.setTop g) t ∧ R t
theorem own_st {tb : Tables} {e : Env} {below : List Frame} {R : State → Prop} {T T' : State} {g g' : JFrame} (h : own_Fin tb e below R T' g') (k : ∀ t, Steps tb e below (T'.setTop g') t → Steps tb e below (T.setTop g) t) : own_Fin tb e below R T g := by
  obtain ⟨t, a, b⟩ := h
  exact ⟨t, k t a, b⟩
def own_End (below : List Frame) (s : State) (Q : Option Value → Heap → List Loc → Prop) (cells slots : Nat) (t : State) : Prop := t.status = .running ∧ ∃ o, Ended t below o ∧ ∃ v L, o = .returned v ∧ Q v t.heap L ∧ FrameEnd s o t L cells slots
/-- a body that writes nothing -/
def own_P (h0 : Heap) (n0 : Nat) (w : Option Value) (v : Option Value) (h : Heap) (L : List Loc) : Prop := v = w ∧ Fr n0 L ∧ h = h0
theorem own_cast {tb : Tables} {e : Env} {below : List Frame} {R R' : State → Prop} {T : State} {g : JFrame} (q : R' = R) (h : own_Fin tb e below R' T g) : own_Fin tb e below R T g := q ▸ h
/-- the law: what it returns, and nothing old is written -/
def own_L (n0 : Nat) (w : Value) (v : Option Value) (h : Heap) (L : List Loc) : Prop := v = some w ∧ Fr n0 L
theorem own_lcW (a b : Int64) : lcmpW a b = if a > b then 1 else if a = b then 0 else -1 := rfl
theorem own_lc_lt {a b : Int64} : lcmpW a b < 0 ↔ a < b := by
  rw [own_lcW]
  by_cases h1 : a > b
  · rw [if_pos h1]
    exact ⟨fun h => absurd h (by decide), fun h => absurd (Int64.lt_trans h h1) Int64.lt_irrefl⟩
  · rw [if_neg h1]
    by_cases h2 : a = b
    · rw [if_pos h2]
      exact ⟨fun h => absurd h (by decide), fun h => absurd (h2 ▸ h) Int64.lt_irrefl⟩
    · rw [if_neg h2]
      refine ⟨fun _ => ?_, fun _ => by decide⟩
      rw [Int64.lt_iff_toInt_lt] at *
      have h3 : a.toInt ≠ b.toInt := fun q => h2 (Int64.toInt_inj.mp q)
      have h4 : ¬ b.toInt < a.toInt := fun q => h1 (Int64.lt_iff_toInt_lt.mpr q)
      omega
theorem own_lc_gt {a b : Int64} : 0 < lcmpW a b ↔ b < a := by
  rw [own_lcW]
  by_cases h1 : a > b
  · rw [if_pos h1]; exact ⟨fun _ => h1, fun _ => by decide⟩
  · rw [if_neg h1]
    by_cases h2 : a = b
    · rw [if_pos h2]; exact ⟨fun h => absurd h (by decide), fun h => absurd h h1⟩
    · rw [if_neg h2]; exact ⟨fun h => absurd h (by decide), fun h => absurd h h1⟩
theorem own_lc_eq {a b : Int64} : lcmpW a b = 0 ↔ a = b := by
  rw [own_lcW]
  by_cases h1 : a > b
  · rw [if_pos h1]; exact ⟨fun h => absurd h (by decide), fun h => absurd (h ▸ h1 : a > a) Int64.lt_irrefl⟩
  · rw [if_neg h1]
    by_cases h2 : a = b
    · rw [if_pos h2]; exact ⟨fun _ => h2, fun _ => rfl⟩
    · rw [if_neg h2]; exact ⟨fun h => absurd h (by decide), fun h => absurd h h2⟩
def own_EndW (below : List Frame) (s : State) (Q : Option Value → Heap → List Loc → Prop) (cells slots : Nat) (t : State) : Prop := t.status = .running ∧ ∃ o, Ended t below o ∧ ∃ v L, o = .returned v ∧ Q v t.heap L ∧ ReturnedEndW s o t L cells slots
theorem own_fr {tb : Tables} {e : Env} {below : List Frame} {R : State → Prop} {T : State} {g g' : JFrame} (q : g' = g) (h : own_Fin tb e below R T g') : own_Fin tb e below R T g := q ▸ h
theorem own_irr32 (x : Int32) : ¬ x < x := Int32.lt_irrefl
theorem own_irr64 (x : Int64) : ¬ x < x := Int64.lt_irrefl
def own_ush32 (x y : Int32) : Int32 := (x.toUInt32 >>> (y &&& 31).toUInt32).toInt32
def own_ush64 (x : Int64) (y : Int32) : Int64 := (x.toUInt64 >>> (y &&& 0x3f).toInt64.toUInt64).toInt64
section OwnStep
variable {p : Program} {l : Launch} {e : Env} {R : Room} {s : State} {m : MethodId} {args : Array Value} {below : List Frame} {meth : Method} {c : Code} {T : State} {locs : List Loc} {kc ks : Nat} {Rr : State → Prop} {Ls Ls' : Array Slot} {st : List Value} {pc pc' : Nat} {Z : State} {a0 : Array Value} {h : Heap}
theorem own_iload (X : Stand p l e R s m args below meth c T locs kc ks) (hx : p.tables.exec = Jvm.exec) {j : Nat} {v : Int32} (hd : decode c.code pc = .ok (.iload j, 2)) (hp : pc + 2 = pc') (hl : Ls[j]? = some (.val (.int v))) (h : own_Fin p.tables e below Rr T (mkF m pc' Ls (.int v :: st))) : own_Fin p.tables e below Rr T (mkF m pc Ls st) := by
  subst hp; exact own_st h (fun t k => XS.iload X.here hx rfl hd hl k)
theorem own_iloadN (X : Stand p l e R s m args below meth c T locs kc ks) (hx : p.tables.exec = Jvm.exec) {j : Fin 4} {v : Int32} (hd : decode c.code pc = .ok (.iload_n j, 1)) (hp : pc + 1 = pc') (hl : Ls[j.val]? = some (.val (.int v))) (h : own_Fin p.tables e below Rr T (mkF m pc' Ls (.int v :: st))) : own_Fin p.tables e below Rr T (mkF m pc Ls st) := by
  subst hp; exact own_st h (fun t k => XS.iloadN X.here hx rfl hd hl k)
theorem own_istore (X : Stand p l e R s m args below meth c T locs kc ks) (hx : p.tables.exec = Jvm.exec) {j : Nat} {v : Int32} (hd : decode c.code pc = .ok (.istore j, 2)) (hp : pc + 2 = pc') (hl : storeLocals Ls j (.int v) = some Ls') (h : own_Fin p.tables e below Rr T (mkF m pc' Ls' st)) : own_Fin p.tables e below Rr T (mkF m pc Ls (.int v :: st)) := by
  subst hp; exact own_st h (fun t k => XS.istore X.here hx rfl hd rfl hl k)
theorem own_istoreN (X : Stand p l e R s m args below meth c T locs kc ks) (hx : p.tables.exec = Jvm.exec) {j : Fin 4} {v : Int32} (hd : decode c.code pc = .ok (.istore_n j, 1)) (hp : pc + 1 = pc') (hl : storeLocals Ls j.val (.int v) = some Ls') (h : own_Fin p.tables e below Rr T (mkF m pc' Ls' st)) : own_Fin p.tables e below Rr T (mkF m pc Ls (.int v :: st)) := by
  subst hp; exact own_st h (fun t k => XS.istoreN X.here hx rfl hd rfl hl k)
theorem own_lload (X : Stand p l e R s m args below meth c T locs kc ks) (hx : p.tables.exec = Jvm.exec) {j : Nat} {v : Int64} (hd : decode c.code pc = .ok (.lload j, 2)) (hp : pc + 2 = pc') (hl : Ls[j]? = some (.val (.long v))) (h : own_Fin p.tables e below Rr T (mkF m pc' Ls (.long v :: st))) : own_Fin p.tables e below Rr T (mkF m pc Ls st) := by
  subst hp; exact own_st h (fun t k => XS.lload X.here hx rfl hd hl k)
theorem own_lloadN (X : Stand p l e R s m args below meth c T locs kc ks) (hx : p.tables.exec = Jvm.exec) {j : Fin 4} {v : Int64} (hd : decode c.code pc = .ok (.lload_n j, 1)) (hp : pc + 1 = pc') (hl : Ls[j.val]? = some (.val (.long v))) (h : own_Fin p.tables e below Rr T (mkF m pc' Ls (.long v :: st))) : own_Fin p.tables e below Rr T (mkF m pc Ls st) := by
  subst hp; exact own_st h (fun t k => XS.lloadN X.here hx rfl hd hl k)
theorem own_lstore (X : Stand p l e R s m args below meth c T locs kc ks) (hx : p.tables.exec = Jvm.exec) {j : Nat} {v : Int64} (hd : decode c.code pc = .ok (.lstore j, 2)) (hp : pc + 2 = pc') (hl : storeLocals Ls j (.long v) = some Ls') (h : own_Fin p.tables e below Rr T (mkF m pc' Ls' st)) : own_Fin p.tables e below Rr T (mkF m pc Ls (.long v :: st)) := by
  subst hp; exact own_st h (fun t k => XS.lstore X.here hx rfl hd rfl hl k)
theorem own_lstoreN (X : Stand p l e R s m args below meth c T locs kc ks) (hx : p.tables.exec = Jvm.exec) {j : Fin 4} {v : Int64} (hd : decode c.code pc = .ok (.lstore_n j, 1)) (hp : pc + 1 = pc') (hl : storeLocals Ls j.val (.long v) = some Ls') (h : own_Fin p.tables e below Rr T (mkF m pc' Ls' st)) : own_Fin p.tables e below Rr T (mkF m pc Ls (.long v :: st)) := by
  subst hp; exact own_st h (fun t k => XS.lstoreN X.here hx rfl hd rfl hl k)
theorem own_aload (X : Stand p l e R s m args below meth c T locs kc ks) (hx : p.tables.exec = Jvm.exec) {j : Nat} {v : Value} (hd : decode c.code pc = .ok (.aload j, 2)) (hp : pc + 2 = pc') (hl : Ls[j]? = some (.val v)) (hv : v.isRef = true) (h : own_Fin p.tables e below Rr T (mkF m pc' Ls (v :: st))) : own_Fin p.tables e below Rr T (mkF m pc Ls st) := by
  subst hp; exact own_st h (fun t k => XS.aload X.here hx rfl hd hl hv k)
theorem own_aloadN (X : Stand p l e R s m args below meth c T locs kc ks) (hx : p.tables.exec = Jvm.exec) {j : Fin 4} {v : Value} (hd : decode c.code pc = .ok (.aload_n j, 1)) (hp : pc + 1 = pc') (hl : Ls[j.val]? = some (.val v)) (hv : v.isRef = true) (h : own_Fin p.tables e below Rr T (mkF m pc' Ls (v :: st))) : own_Fin p.tables e below Rr T (mkF m pc Ls st) := by
  subst hp; exact own_st h (fun t k => XS.aloadN X.here hx rfl hd hl hv k)
theorem own_astore (X : Stand p l e R s m args below meth c T locs kc ks) (hx : p.tables.exec = Jvm.exec) {j : Nat} {v : Value} (hd : decode c.code pc = .ok (.astore j, 2)) (hp : pc + 2 = pc') (hv : v.isRef = true) (hl : storeLocals Ls j v = some Ls') (h : own_Fin p.tables e below Rr T (mkF m pc' Ls' st)) : own_Fin p.tables e below Rr T (mkF m pc Ls (v :: st)) := by
  subst hp; exact own_st h (fun t k => XS.astore X.here hx rfl hd rfl hv hl k)
theorem own_astoreN (X : Stand p l e R s m args below meth c T locs kc ks) (hx : p.tables.exec = Jvm.exec) {j : Fin 4} {v : Value} (hd : decode c.code pc = .ok (.astore_n j, 1)) (hp : pc + 1 = pc') (hv : v.isRef = true) (hl : storeLocals Ls j.val v = some Ls') (h : own_Fin p.tables e below Rr T (mkF m pc' Ls' st)) : own_Fin p.tables e below Rr T (mkF m pc Ls (v :: st)) := by
  subst hp; exact own_st h (fun t k => XS.astoreN X.here hx rfl hd rfl hv hl k)
theorem own_iconst (X : Stand p l e R s m args below meth c T locs kc ks) (hx : p.tables.exec = Jvm.exec) {i : Int} {v : Int32} (hd : decode c.code pc = .ok (.iconst i, 1)) (hp : pc + 1 = pc') (hv : Int32.ofInt i = v) (h : own_Fin p.tables e below Rr T (mkF m pc' Ls (.int v :: st))) : own_Fin p.tables e below Rr T (mkF m pc Ls st) := by
  subst hp; exact own_st h (fun t k => XS.iconst X.here hx rfl hd (hv ▸ k))
theorem own_bipush (X : Stand p l e R s m args below meth c T locs kc ks) (hx : p.tables.exec = Jvm.exec) {i : Int} {v : Int32} (hd : decode c.code pc = .ok (.bipush i, 2)) (hp : pc + 2 = pc') (hv : (Int8.ofInt i).toInt32 = v) (h : own_Fin p.tables e below Rr T (mkF m pc' Ls (.int v :: st))) : own_Fin p.tables e below Rr T (mkF m pc Ls st) := by
  subst hp; exact own_st h (fun t k => XS.bipush X.here hx rfl hd (hv ▸ k))
theorem own_sipush (X : Stand p l e R s m args below meth c T locs kc ks) (hx : p.tables.exec = Jvm.exec) {i : Int} {v : Int32} (hd : decode c.code pc = .ok (.sipush i, 3)) (hp : pc + 3 = pc') (hv : (Int16.ofInt i).toInt32 = v) (h : own_Fin p.tables e below Rr T (mkF m pc' Ls (.int v :: st))) : own_Fin p.tables e below Rr T (mkF m pc Ls st) := by
  subst hp; exact own_st h (fun t k => XS.sipush X.here hx rfl hd (hv ▸ k))
theorem own_lconst (X : Stand p l e R s m args below meth c T locs kc ks) (hx : p.tables.exec = Jvm.exec) {i : Fin 2} {v : Int64} (hd : decode c.code pc = .ok (.lconst i, 1)) (hp : pc + 1 = pc') (hv : Int64.ofNat i = v) (h : own_Fin p.tables e below Rr T (mkF m pc' Ls (.long v :: st))) : own_Fin p.tables e below Rr T (mkF m pc Ls st) := by
  subst hp; exact own_st h (fun t k => XS.lconst X.here hx rfl hd (hv ▸ k))
theorem own_aconstNull (X : Stand p l e R s m args below meth c T locs kc ks) (hx : p.tables.exec = Jvm.exec)  (hd : decode c.code pc = .ok (.aconst_null, 1)) (hp : pc + 1 = pc')  (h : own_Fin p.tables e below Rr T (mkF m pc' Ls (.null :: st))) : own_Fin p.tables e below Rr T (mkF m pc Ls st) := by
  subst hp; exact own_st h (fun t k => XS.aconstNull X.here hx rfl hd k)
theorem own_iadd (X : Stand p l e R s m args below meth c T locs kc ks) (hx : p.tables.exec = Jvm.exec) {x y : Int32} (hd : decode c.code pc = .ok (.iadd, 1)) (hp : pc + 1 = pc')  (h : own_Fin p.tables e below Rr T (mkF m pc' Ls (.int (x + y) :: st))) : own_Fin p.tables e below Rr T (mkF m pc Ls (.int y :: .int x :: st)) := by
  subst hp; exact own_st h (fun t k => XS.iadd X.here hx rfl hd rfl k)
theorem own_ladd (X : Stand p l e R s m args below meth c T locs kc ks) (hx : p.tables.exec = Jvm.exec) {x y : Int64} (hd : decode c.code pc = .ok (.ladd, 1)) (hp : pc + 1 = pc')  (h : own_Fin p.tables e below Rr T (mkF m pc' Ls (.long (x + y) :: st))) : own_Fin p.tables e below Rr T (mkF m pc Ls (.long y :: .long x :: st)) := by
  subst hp; exact own_st h (fun t k => XS.ladd X.here hx rfl hd rfl k)
theorem own_isub (X : Stand p l e R s m args below meth c T locs kc ks) (hx : p.tables.exec = Jvm.exec) {x y : Int32} (hd : decode c.code pc = .ok (.isub, 1)) (hp : pc + 1 = pc')  (h : own_Fin p.tables e below Rr T (mkF m pc' Ls (.int (x - y) :: st))) : own_Fin p.tables e below Rr T (mkF m pc Ls (.int y :: .int x :: st)) := by
  subst hp; exact own_st h (fun t k => XS.isub X.here hx rfl hd rfl k)
theorem own_lsub (X : Stand p l e R s m args below meth c T locs kc ks) (hx : p.tables.exec = Jvm.exec) {x y : Int64} (hd : decode c.code pc = .ok (.lsub, 1)) (hp : pc + 1 = pc')  (h : own_Fin p.tables e below Rr T (mkF m pc' Ls (.long (x - y) :: st))) : own_Fin p.tables e below Rr T (mkF m pc Ls (.long y :: .long x :: st)) := by
  subst hp; exact own_st h (fun t k => XS.lsub X.here hx rfl hd rfl k)
theorem own_imul (X : Stand p l e R s m args below meth c T locs kc ks) (hx : p.tables.exec = Jvm.exec) {x y : Int32} (hd : decode c.code pc = .ok (.imul, 1)) (hp : pc + 1 = pc')  (h : own_Fin p.tables e below Rr T (mkF m pc' Ls (.int (x * y) :: st))) : own_Fin p.tables e below Rr T (mkF m pc Ls (.int y :: .int x :: st)) := by
  subst hp; exact own_st h (fun t k => XS.imul X.here hx rfl hd rfl k)
theorem own_lmul (X : Stand p l e R s m args below meth c T locs kc ks) (hx : p.tables.exec = Jvm.exec) {x y : Int64} (hd : decode c.code pc = .ok (.lmul, 1)) (hp : pc + 1 = pc')  (h : own_Fin p.tables e below Rr T (mkF m pc' Ls (.long (x * y) :: st))) : own_Fin p.tables e below Rr T (mkF m pc Ls (.long y :: .long x :: st)) := by
  subst hp; exact own_st h (fun t k => XS.lmul X.here hx rfl hd rfl k)
theorem own_iand (X : Stand p l e R s m args below meth c T locs kc ks) (hx : p.tables.exec = Jvm.exec) {x y : Int32} (hd : decode c.code pc = .ok (.iand, 1)) (hp : pc + 1 = pc')  (h : own_Fin p.tables e below Rr T (mkF m pc' Ls (.int (x &&& y) :: st))) : own_Fin p.tables e below Rr T (mkF m pc Ls (.int y :: .int x :: st)) := by
  subst hp; exact own_st h (fun t k => XS.iand X.here hx rfl hd rfl k)
theorem own_land (X : Stand p l e R s m args below meth c T locs kc ks) (hx : p.tables.exec = Jvm.exec) {x y : Int64} (hd : decode c.code pc = .ok (.land, 1)) (hp : pc + 1 = pc')  (h : own_Fin p.tables e below Rr T (mkF m pc' Ls (.long (x &&& y) :: st))) : own_Fin p.tables e below Rr T (mkF m pc Ls (.long y :: .long x :: st)) := by
  subst hp; exact own_st h (fun t k => XS.land X.here hx rfl hd rfl k)
theorem own_ior (X : Stand p l e R s m args below meth c T locs kc ks) (hx : p.tables.exec = Jvm.exec) {x y : Int32} (hd : decode c.code pc = .ok (.ior, 1)) (hp : pc + 1 = pc')  (h : own_Fin p.tables e below Rr T (mkF m pc' Ls (.int (x ||| y) :: st))) : own_Fin p.tables e below Rr T (mkF m pc Ls (.int y :: .int x :: st)) := by
  subst hp; exact own_st h (fun t k => XS.ior X.here hx rfl hd rfl k)
theorem own_lor (X : Stand p l e R s m args below meth c T locs kc ks) (hx : p.tables.exec = Jvm.exec) {x y : Int64} (hd : decode c.code pc = .ok (.lor, 1)) (hp : pc + 1 = pc')  (h : own_Fin p.tables e below Rr T (mkF m pc' Ls (.long (x ||| y) :: st))) : own_Fin p.tables e below Rr T (mkF m pc Ls (.long y :: .long x :: st)) := by
  subst hp; exact own_st h (fun t k => XS.lor X.here hx rfl hd rfl k)
theorem own_ixor (X : Stand p l e R s m args below meth c T locs kc ks) (hx : p.tables.exec = Jvm.exec) {x y : Int32} (hd : decode c.code pc = .ok (.ixor, 1)) (hp : pc + 1 = pc')  (h : own_Fin p.tables e below Rr T (mkF m pc' Ls (.int (x ^^^ y) :: st))) : own_Fin p.tables e below Rr T (mkF m pc Ls (.int y :: .int x :: st)) := by
  subst hp; exact own_st h (fun t k => XS.ixor X.here hx rfl hd rfl k)
theorem own_lxor (X : Stand p l e R s m args below meth c T locs kc ks) (hx : p.tables.exec = Jvm.exec) {x y : Int64} (hd : decode c.code pc = .ok (.lxor, 1)) (hp : pc + 1 = pc')  (h : own_Fin p.tables e below Rr T (mkF m pc' Ls (.long (x ^^^ y) :: st))) : own_Fin p.tables e below Rr T (mkF m pc Ls (.long y :: .long x :: st)) := by
  subst hp; exact own_st h (fun t k => XS.lxor X.here hx rfl hd rfl k)
theorem own_idiv (X : Stand p l e R s m args below meth c T locs kc ks) (hx : p.tables.exec = Jvm.exec) {x y : Int32} (hd : decode c.code pc = .ok (.idiv, 1)) (hp : pc + 1 = pc') (hy : y ≠ 0) (h : own_Fin p.tables e below Rr T (mkF m pc' Ls (.int (x / y) :: st))) : own_Fin p.tables e below Rr T (mkF m pc Ls (.int y :: .int x :: st)) := by
  subst hp; exact own_st h (fun t k => XS.idiv X.here hx rfl hd rfl hy k)
theorem own_ldiv (X : Stand p l e R s m args below meth c T locs kc ks) (hx : p.tables.exec = Jvm.exec) {x y : Int64} (hd : decode c.code pc = .ok (.ldiv, 1)) (hp : pc + 1 = pc') (hy : y ≠ 0) (h : own_Fin p.tables e below Rr T (mkF m pc' Ls (.long (x / y) :: st))) : own_Fin p.tables e below Rr T (mkF m pc Ls (.long y :: .long x :: st)) := by
  subst hp; exact own_st h (fun t k => XS.ldiv X.here hx rfl hd rfl hy k)
theorem own_irem (X : Stand p l e R s m args below meth c T locs kc ks) (hx : p.tables.exec = Jvm.exec) {x y : Int32} (hd : decode c.code pc = .ok (.irem, 1)) (hp : pc + 1 = pc') (hy : y ≠ 0) (h : own_Fin p.tables e below Rr T (mkF m pc' Ls (.int (x - (x / y) * y) :: st))) : own_Fin p.tables e below Rr T (mkF m pc Ls (.int y :: .int x :: st)) := by
  subst hp; exact own_st h (fun t k => XS.irem X.here hx rfl hd rfl hy k)
theorem own_lrem (X : Stand p l e R s m args below meth c T locs kc ks) (hx : p.tables.exec = Jvm.exec) {x y : Int64} (hd : decode c.code pc = .ok (.lrem, 1)) (hp : pc + 1 = pc') (hy : y ≠ 0) (h : own_Fin p.tables e below Rr T (mkF m pc' Ls (.long (x - (x / y) * y) :: st))) : own_Fin p.tables e below Rr T (mkF m pc Ls (.long y :: .long x :: st)) := by
  subst hp; exact own_st h (fun t k => XS.lrem X.here hx rfl hd rfl hy k)
theorem own_ishl (X : Stand p l e R s m args below meth c T locs kc ks) (hx : p.tables.exec = Jvm.exec) {x y : Int32} (hd : decode c.code pc = .ok (.ishl, 1)) (hp : pc + 1 = pc')  (h : own_Fin p.tables e below Rr T (mkF m pc' Ls (.int (x <<< (y &&& 31)) :: st))) : own_Fin p.tables e below Rr T (mkF m pc Ls (.int y :: .int x :: st)) := by
  subst hp; exact own_st h (fun t k => XS.ishl X.here hx rfl hd rfl k)
theorem own_ishr (X : Stand p l e R s m args below meth c T locs kc ks) (hx : p.tables.exec = Jvm.exec) {x y : Int32} (hd : decode c.code pc = .ok (.ishr, 1)) (hp : pc + 1 = pc')  (h : own_Fin p.tables e below Rr T (mkF m pc' Ls (.int (x >>> (y &&& 31)) :: st))) : own_Fin p.tables e below Rr T (mkF m pc Ls (.int y :: .int x :: st)) := by
  subst hp; exact own_st h (fun t k => XS.ishr X.here hx rfl hd rfl k)
theorem own_iushr (X : Stand p l e R s m args below meth c T locs kc ks) (hx : p.tables.exec = Jvm.exec) {x y : Int32} (hd : decode c.code pc = .ok (.iushr, 1)) (hp : pc + 1 = pc')  (h : own_Fin p.tables e below Rr T (mkF m pc' Ls (.int (own_ush32 x y) :: st))) : own_Fin p.tables e below Rr T (mkF m pc Ls (.int y :: .int x :: st)) := by
  subst hp; exact own_st h (fun t k => XS.iushr X.here hx rfl hd rfl k)
theorem own_lshl (X : Stand p l e R s m args below meth c T locs kc ks) (hx : p.tables.exec = Jvm.exec) {x : Int64} {y : Int32} (hd : decode c.code pc = .ok (.lshl, 1)) (hp : pc + 1 = pc')  (h : own_Fin p.tables e below Rr T (mkF m pc' Ls (.long (x <<< (y &&& 63).toInt64) :: st))) : own_Fin p.tables e below Rr T (mkF m pc Ls (.int y :: .long x :: st)) := by
  subst hp; exact own_st h (fun t k => XS.lshl X.here hx rfl hd rfl k)
theorem own_lshr (X : Stand p l e R s m args below meth c T locs kc ks) (hx : p.tables.exec = Jvm.exec) {x : Int64} {y : Int32} (hd : decode c.code pc = .ok (.lshr, 1)) (hp : pc + 1 = pc')  (h : own_Fin p.tables e below Rr T (mkF m pc' Ls (.long (x >>> (y &&& 63).toInt64) :: st))) : own_Fin p.tables e below Rr T (mkF m pc Ls (.int y :: .long x :: st)) := by
  subst hp; exact own_st h (fun t k => XS.lshr X.here hx rfl hd rfl k)
theorem own_lushr (X : Stand p l e R s m args below meth c T locs kc ks) (hx : p.tables.exec = Jvm.exec) {x : Int64} {y : Int32} (hd : decode c.code pc = .ok (.lushr, 1)) (hp : pc + 1 = pc')  (h : own_Fin p.tables e below Rr T (mkF m pc' Ls (.long (own_ush64 x y) :: st))) : own_Fin p.tables e below Rr T (mkF m pc Ls (.int y :: .long x :: st)) := by
  subst hp; exact own_st h (fun t k => XS.lushr X.here hx rfl hd rfl k)
theorem own_ineg (X : Stand p l e R s m args below meth c T locs kc ks) (hx : p.tables.exec = Jvm.exec) {x : Int32} (hd : decode c.code pc = .ok (.ineg, 1)) (hp : pc + 1 = pc')  (h : own_Fin p.tables e below Rr T (mkF m pc' Ls (.int (-x) :: st))) : own_Fin p.tables e below Rr T (mkF m pc Ls (.int x :: st)) := by
  subst hp; exact own_st h (fun t k => XS.ineg X.here hx rfl hd rfl k)
theorem own_lneg (X : Stand p l e R s m args below meth c T locs kc ks) (hx : p.tables.exec = Jvm.exec) {x : Int64} (hd : decode c.code pc = .ok (.lneg, 1)) (hp : pc + 1 = pc')  (h : own_Fin p.tables e below Rr T (mkF m pc' Ls (.long (-x) :: st))) : own_Fin p.tables e below Rr T (mkF m pc Ls (.long x :: st)) := by
  subst hp; exact own_st h (fun t k => XS.lneg X.here hx rfl hd rfl k)
theorem own_i2l (X : Stand p l e R s m args below meth c T locs kc ks) (hx : p.tables.exec = Jvm.exec) {x : Int32} (hd : decode c.code pc = .ok (.i2l, 1)) (hp : pc + 1 = pc')  (h : own_Fin p.tables e below Rr T (mkF m pc' Ls (.long (x.toInt64) :: st))) : own_Fin p.tables e below Rr T (mkF m pc Ls (.int x :: st)) := by
  subst hp; exact own_st h (fun t k => XS.i2l X.here hx rfl hd rfl k)
theorem own_l2i (X : Stand p l e R s m args below meth c T locs kc ks) (hx : p.tables.exec = Jvm.exec) {x : Int64} (hd : decode c.code pc = .ok (.l2i, 1)) (hp : pc + 1 = pc')  (h : own_Fin p.tables e below Rr T (mkF m pc' Ls (.int (x.toInt32) :: st))) : own_Fin p.tables e below Rr T (mkF m pc Ls (.long x :: st)) := by
  subst hp; exact own_st h (fun t k => XS.l2i X.here hx rfl hd rfl k)
theorem own_i2b (X : Stand p l e R s m args below meth c T locs kc ks) (hx : p.tables.exec = Jvm.exec) {x : Int32} (hd : decode c.code pc = .ok (.i2b, 1)) (hp : pc + 1 = pc')  (h : own_Fin p.tables e below Rr T (mkF m pc' Ls (.int (x.toInt8.toInt32) :: st))) : own_Fin p.tables e below Rr T (mkF m pc Ls (.int x :: st)) := by
  subst hp; exact own_st h (fun t k => XS.i2b X.here hx rfl hd rfl k)
theorem own_i2s (X : Stand p l e R s m args below meth c T locs kc ks) (hx : p.tables.exec = Jvm.exec) {x : Int32} (hd : decode c.code pc = .ok (.i2s, 1)) (hp : pc + 1 = pc')  (h : own_Fin p.tables e below Rr T (mkF m pc' Ls (.int (x.toInt16.toInt32) :: st))) : own_Fin p.tables e below Rr T (mkF m pc Ls (.int x :: st)) := by
  subst hp; exact own_st h (fun t k => XS.i2s X.here hx rfl hd rfl k)
theorem own_lcmp (X : Stand p l e R s m args below meth c T locs kc ks) (hx : p.tables.exec = Jvm.exec) {x y : Int64} (hd : decode c.code pc = .ok (.lcmp, 1)) (hp : pc + 1 = pc')  (h : own_Fin p.tables e below Rr T (mkF m pc' Ls (.int (lcmpW x y) :: st))) : own_Fin p.tables e below Rr T (mkF m pc Ls (.long y :: .long x :: st)) := by
  subst hp; exact own_st h (fun t k => XS.lcmp X.here hx rfl hd rfl k)
theorem own_iinc (X : Stand p l e R s m args below meth c T locs kc ks) (hx : p.tables.exec = Jvm.exec) {j : Nat} {i : Int} {x : Int32} (hd : decode c.code pc = .ok (.iinc j i, 3)) (hp : pc + 3 = pc') (hl : Ls[j]? = some (.val (.int x))) (hl' : storeLocals Ls j (.int (x + Int32.ofInt i)) = some Ls') (h : own_Fin p.tables e below Rr T (mkF m pc' Ls' st)) : own_Fin p.tables e below Rr T (mkF m pc Ls st) := by
  subst hp; exact own_st h (fun t k => XS.iinc X.here hx rfl hd hl hl' k)
theorem own_dup (X : Stand p l e R s m args below meth c T locs kc ks) (hx : p.tables.exec = Jvm.exec) {v : Value} (hd : decode c.code pc = .ok (.dup, 1)) (hp : pc + 1 = pc') (hc : v.category = 1) (h : own_Fin p.tables e below Rr T (mkF m pc' Ls (v :: v :: st))) : own_Fin p.tables e below Rr T (mkF m pc Ls (v :: st)) := by
  subst hp; exact own_st h (fun t k => XS.dup X.here hx rfl hd rfl hc k)
theorem own_pop (X : Stand p l e R s m args below meth c T locs kc ks) (hx : p.tables.exec = Jvm.exec) {v : Value} (hd : decode c.code pc = .ok (.pop, 1)) (hp : pc + 1 = pc') (hc : v.category = 1) (h : own_Fin p.tables e below Rr T (mkF m pc' Ls st)) : own_Fin p.tables e below Rr T (mkF m pc Ls (v :: st)) := by
  subst hp; exact own_st h (fun t k => XS.pop X.here hx rfl hd rfl hc k)
theorem own_goto (X : Stand p l e R s m args below meth c T locs kc ks) (hx : p.tables.exec = Jvm.exec) {o : Int} (hd : decode c.code pc = .ok (.goto o, 3))  (ho : 0 ≤ (pc : Int) + o) (hp : ((pc : Int) + o).toNat = pc') (h : own_Fin p.tables e below Rr T (mkF m pc' Ls st)) : own_Fin p.tables e below Rr T (mkF m pc Ls st) := own_st h (fun t k => XS.goto X.here hx rfl (pc0 := pc) (pc' := pc') rfl hd ho hp k)
theorem own_ifYes (X : Stand p l e R s m args below meth c T locs kc ks) (hx : p.tables.exec = Jvm.exec) {cd : ClassFile.Cond} {o : Int} {x : Int32} (hd : decode c.code pc = .ok (.ifCond cd o, 3)) (hc : ifCond.holds cd x = true) (ho : 0 ≤ (pc : Int) + o) (hp : ((pc : Int) + o).toNat = pc') (h : own_Fin p.tables e below Rr T (mkF m pc' Ls st)) : own_Fin p.tables e below Rr T (mkF m pc Ls (.int x :: st)) := own_st h (fun t k => XS.ifYes X.here hx rfl (pc0 := pc) (pc' := pc') rfl hd rfl hc ho hp k)
theorem own_icmpYes (X : Stand p l e R s m args below meth c T locs kc ks) (hx : p.tables.exec = Jvm.exec) {cd : ClassFile.Cond} {o : Int} {x y : Int32} (hd : decode c.code pc = .ok (.if_icmp cd o, 3)) (hc : if_icmp.holds cd x y = true) (ho : 0 ≤ (pc : Int) + o) (hp : ((pc : Int) + o).toNat = pc') (h : own_Fin p.tables e below Rr T (mkF m pc' Ls st)) : own_Fin p.tables e below Rr T (mkF m pc Ls (.int y :: .int x :: st)) := own_st h (fun t k => XS.icmpYes X.here hx rfl (pc0 := pc) (pc' := pc') rfl hd rfl hc ho hp k)
theorem own_ifNo (X : Stand p l e R s m args below meth c T locs kc ks) (hx : p.tables.exec = Jvm.exec) {cd : ClassFile.Cond} {o : Int} {x : Int32} (hd : decode c.code pc = .ok (.ifCond cd o, 3)) (hp : pc + 3 = pc') (hc : ifCond.holds cd x = false) (h : own_Fin p.tables e below Rr T (mkF m pc' Ls st)) : own_Fin p.tables e below Rr T (mkF m pc Ls (.int x :: st)) := by
  subst hp; exact own_st h (fun t k => XS.ifNo X.here hx rfl hd rfl hc k)
theorem own_icmpNo (X : Stand p l e R s m args below meth c T locs kc ks) (hx : p.tables.exec = Jvm.exec) {cd : ClassFile.Cond} {o : Int} {x y : Int32} (hd : decode c.code pc = .ok (.if_icmp cd o, 3)) (hp : pc + 3 = pc') (hc : if_icmp.holds cd x y = false) (h : own_Fin p.tables e below Rr T (mkF m pc' Ls st)) : own_Fin p.tables e below Rr T (mkF m pc Ls (.int y :: .int x :: st)) := by
  subst hp; exact own_st h (fun t k => XS.icmpNo X.here hx rfl hd rfl hc k)
theorem own_ldcInt (X : Stand p l e R s m args below meth c T locs kc ks) (hx : p.tables.exec = Jvm.exec) {own : String} {index : Nat} {v : Int32} (hZ : Z.Warmed39 s.vm) (hown : s.vm.findClass own = some m.cls) (w : (Jvm.Cond.constant own index v).before a0 Z = true) (hd : decode c.code pc = .ok (.ldc index, 2)) (hp : pc + 2 = pc') (h : own_Fin p.tables e below Rr T (mkF m pc' Ls (.int v :: st))) : own_Fin p.tables e below Rr T (mkF m pc Ls st) := by
  subst hp; exact own_st h (fun t k => X.ldcInt hx hown (mvT hZ w) (g := mkF m pc Ls st) rfl hd t k)
theorem own_ldc2Long (X : Stand p l e R s m args below meth c T locs kc ks) (hx : p.tables.exec = Jvm.exec) {own : String} {index : Nat} {v : Int64} (hZ : Z.Warmed39 s.vm) (hown : s.vm.findClass own = some m.cls) (w : (Jvm.Cond.constantLong own index v).before a0 Z = true) (hd : decode c.code pc = .ok (.ldc2_w index, 3)) (hp : pc + 3 = pc') (h : own_Fin p.tables e below Rr T (mkF m pc' Ls (.long v :: st))) : own_Fin p.tables e below Rr T (mkF m pc Ls st) := by
  subst hp; exact own_st h (fun t k => X.ldc2Long hx hown (mvT hZ w) (g := mkF m pc Ls st) rfl hd t k)
theorem own_getF (X : Stand p l e R s m args below meth c T locs kc ks) (hx : p.tables.exec = Jvm.exec) {own R0 O n d : String} {index : Nat} {a : Addr} {v : Value} (hZ : Z.Warmed39 s.vm) (hown : s.vm.findClass own = some m.cls) (w : (Jvm.Cond.fieldLink own index R0 n d).before a0 Z = true) (via : Via Z R0 O n d) (eT : T.heap = h) (Fl : Fld Z h a O n d v) (hd : decode c.code pc = .ok (.getfield index, 3)) (hp : pc + 3 = pc')
    (k : ∀ T', Stand p l e R s m args below meth c T' locs kc ks → T'.heap = h → own_Fin p.tables e below Rr T' (mkF m pc' Ls (v :: st))) : own_Fin p.tables e below Rr T (mkF m pc Ls (.ref a :: st)) := by
  obtain ⟨T', X', e', st'⟩ := getF X hx hZ hown (host := "") (Or.inl w) via eT Fl (g := mkF m pc Ls (.ref a :: st)) rfl rfl hd
  subst hp; exact own_st (k T' X' e') st'
end OwnStep
section OwnPop
variable {p : Program} {l : Launch} {e : Env} {R : Room} {s : State} {m : MethodId} {args : Array Value} {below : List Frame} {meth : Method} {c : Code} {T : State} {locs : List Loc} {k n : Nat}
theorem own_pop2 (X : Stand p l e R s m args below meth c T locs k n) (hx : p.tables.exec = Jvm.exec) {pc : Nat} {Ls : Array Slot} {z : Int64} {rest : List Value} {t : State} (hd : decode c.code pc = .ok (.pop2, 1)) (hr : Steps p.tables e below (T.setTop (mkF m (pc + 1) Ls rest)) t) : Steps p.tables e below (T.setTop (mkF m pc Ls (.long z :: rest))) t := by
  jvm_step X.here [X.here.top, hx, hd, Value.category]
  exact hr
end OwnPop
section OwnRet
variable {p : Program} {l : Launch} {e : Env} {R : Room} {s : State} {m : MethodId} {args : Array Value} {below : List Frame} {meth : Method} {c : Code} {T : State} {locs : List Loc} {k n k' n' : Nat} {Q : Option Value → Heap → List Loc → Prop} {pc : Nat} {Ls : Array Slot}
theorem own_retN (X : Stand p l e R s m args below meth c T locs k n) (hx : p.tables.exec = Jvm.exec) {t : FieldType} (hret : meth.sig.returnType = some t) (ht : t = .boolean ∨ t = .byte ∨ t = .char ∨ t = .short) (hlk : meth.locks = false) {z : Int32} {rest : List Value} (hd : decode c.code pc = .ok (.ireturn, 1)) (hk : k ≤ k') (hn : n ≤ n') (hq : Q (some (.int (nar t z))) T.heap locs) : own_Fin p.tables e below (own_End below s Q k' n') T (mkF m pc Ls (.int z :: rest)) := by
  obtain ⟨fs, hr, hrun, hended, hW, hsame⟩ := X.leave (v := some (.int (nar t z))) (fun h => by rw [hret] at h; cases h) hlk
  exact ⟨_, retN X hx hret ht hd hr, hrun, _, hended, _, _, rfl, hq, ⟨_, rfl⟩, hW, hsame.mono hk hn⟩
theorem own_retNW {vm₁ : Vm} {k0 : Nat} (X : Stand p l e R (s.setVm vm₁) m args below meth c T locs k n) (hx : p.tables.exec = Jvm.exec) (hS : s.Since vm₁ k0) (hk0 : k0 ≤ T.heap.size) {t : FieldType} (hret : meth.sig.returnType = some t) (ht : t = .boolean ∨ t = .byte ∨ t = .char ∨ t = .short) (hlk : meth.locks = false) {z : Int32} {rest : List Value} (hd : decode c.code pc = .ok (.ireturn, 1)) (hk : k ≤ k') (hn : n ≤ n') (hq : Q (some (.int (nar t z))) T.heap locs) : own_Fin p.tables e below (own_EndW below s Q k' n') T (mkF m pc Ls (.int z :: rest)) := by
  obtain ⟨fs, hr, hrun, hended, hW⟩ := X.leaveW hS hk0 (v := some (.int (nar t z))) (fun h => by rw [hret] at h; cases h) hlk
  exact ⟨_, retN X hx hret ht hd hr, hrun, _, hended, _, _, rfl, hq, hW.1, hW.2.1, hW.2.2.1, hW.2.2.2.mono hk hn⟩
theorem own_retI (X : Stand p l e R s m args below meth c T locs k n) (hx : p.tables.exec = Jvm.exec) (hret : meth.sig.returnType = some .int) (hlk : meth.locks = false) {z : Int32} {rest : List Value} (hd : decode c.code pc = .ok (.ireturn, 1)) (hk : k ≤ k') (hn : n ≤ n') (hq : Q (some (.int z)) T.heap locs) : own_Fin p.tables e below (own_End below s Q k' n') T (mkF m pc Ls (.int z :: rest)) := by
  obtain ⟨fs, hr, hrun, hended, hW, hsame⟩ := X.leave (v := some (.int z)) (fun h => by rw [hret] at h; cases h) hlk
  exact ⟨_, retI X hx hret hd hr, hrun, _, hended, _, _, rfl, hq, ⟨_, rfl⟩, hW, hsame.mono hk hn⟩
theorem own_retJ (X : Stand p l e R s m args below meth c T locs k n) (hx : p.tables.exec = Jvm.exec) (hret : meth.sig.returnType = some .long) (hlk : meth.locks = false) {z : Int64} (hd : decode c.code pc = .ok (.lreturn, 1)) (hk : k ≤ k') (hn : n ≤ n') (hq : Q (some (.long z)) T.heap locs) : own_Fin p.tables e below (own_End below s Q k' n') T (mkF m pc Ls [.long z]) := by
  obtain ⟨fs, hr, hrun, hended, hW, hsame⟩ := X.leave (v := some (.long z)) (fun h => by rw [hret] at h; cases h) hlk
  exact ⟨_, lreturnOut X hx hret hd hr, hrun, _, hended, _, _, rfl, hq, ⟨_, rfl⟩, hW, hsame.mono hk hn⟩
theorem own_retV (X : Stand p l e R s m args below meth c T locs k n) (hx : p.tables.exec = Jvm.exec) (hret : meth.sig.returnType = none) (hlk : meth.locks = false) (hd : decode c.code pc = .ok (.return_, 1)) (hk : k ≤ k') (hn : n ≤ n') (hq : Q none T.heap locs) : own_Fin p.tables e below (own_End below s Q k' n') T (mkF m pc Ls []) := by
  obtain ⟨fs, hr, hrun, hended, hW, hsame⟩ := X.leave (v := none) (fun _ => rfl) hlk
  exact ⟨_, X.returnOut hx hret hd hr, hrun, _, hended, _, _, rfl, hq, ⟨_, rfl⟩, hW, hsame.mono hk hn⟩
end OwnRet
end Jvm.Pilot.@@N@@
namespace Jvm.Pilot.@@N@@
open Jvm Jvm.ClassFile Sem Op Lib Jvm.Free Jvm.Stand Jvm.LawKit Jvm.RoadKit Bundle Jvm.Pilot.@@N@@.Jvm.D
theorem pd_0 : parseMethodDescriptor "()V" = some ⟨[], none⟩ := by decide +kernel
theorem pd_1 : parseMethodDescriptor "()Z" = some ⟨[], some .boolean⟩ := by decide +kernel
theorem d1_0 : decode prog_69_method_1_code 0 = .ok (.aload_n 0, 1) := by decide +kernel
theorem d1_1 : decode prog_69_method_1_code 1 = .ok (.invokespecial 3, 3) := by decide +kernel
theorem d1_4 : decode prog_69_method_1_code 4 = .ok (.aload_n 0, 1) := by decide +kernel
theorem d1_5 : decode prog_69_method_1_code 5 = .ok (.bipush 64, 2) := by decide +kernel
theorem d1_7 : decode prog_69_method_1_code 7 = .ok (.putfield 9, 3) := by decide +kernel
theorem d1_10 : decode prog_69_method_1_code 10 = .ok (.return_, 1) := by decide +kernel
theorem pn_1 : plainName "com/example/typewire/typewire/pva/StructCode$Allowance" = true := by first | (simp [plainName, overriddenIn]; done) | decide +kernel
def own_Q1 (Z : State) (q1 : Addr) (w_left_q1 : Int32) (h0 : Heap) (n0 : Nat) (v : Option Value) (h : Heap) (L : List Loc) : Prop := v = none ∧ Fr n0 L ∧ Keep h0 h [q1] ∧ Exa Z h q1 "com/example/typewire/typewire/pva/StructCode$Allowance" ∧ Fld Z h q1 "com/example/typewire/typewire/pva/StructCode$Allowance" "left" "I" (.int (64 : Int32))
set_option maxRecDepth 65536 in
set_option maxHeartbeats 40000000 in
theorem sg1_0 {p : Program} (l : Launch) {e : Env} {s : State} {m : MethodId} {args : Array Value} {below : List Frame} {meth : Method} {c : Code} {Z : State} {a0 : Array Value} (hw : ∀ d ∈ tables_1, d.before a0 Z = true) (hx : p.tables.exec = Jvm.exec) (hZ : Z.Warmed39 s.vm) (hby : c.code = prog_69_method_1_code) (hml : c.maxLocals = 1) (hown : s.vm.findClass "com/example/typewire/typewire/pva/StructCode$Allowance" = some m.cls) (hnm : meth.name = "<init>") (hret : meth.sig.returnType = none) (hlk : meth.locks = false) (q1 : Addr) (w_left_q1 : Int32) {h0 : Heap} {n0 : Nat} (Z0 : n0 ≤ h0.size) {T0 : State} {L0 : List Loc} (X0 : Stand p l e ({ frames := 1, cells := 0, slots := 0, locals := 12 } : Room) s m args below meth c T0 L0 0 0) (N0 : Fr n0 L0) (e0 : T0.heap = h0) (E_q1 : Exa Z h0 q1 "com/example/typewire/typewire/pva/StructCode$Allowance") (g_q1 : n0 ≤ q1) (F_left_q1 : Fld Z h0 q1 "com/example/typewire/typewire/pva/StructCode$Allowance" "left" "I" (.int w_left_q1)) :
    own_Fin p.tables e below (own_End below s (own_Q1 Z q1 w_left_q1 h0 n0) 0 0) T0 (mkF m 0 #[.val (.ref q1)] []) := by
  have K0 := Keep.refl h0 [q1]
  refine own_aloadN X0 hx (hb hby d1_0) (pc' := 1) rfl rfl rfl ?_
  obtain ⟨T1, X1, e1, st1⟩ := initO X0 hx hZ hown (hw _ (List.mem_of_getElem? (i := 6) rfl)) (hw _ (List.mem_of_getElem? (i := 7) rfl)) (hw _ (List.mem_of_getElem? (i := 8) rfl)) e0 (g := (mkF m 1 #[.val (.ref q1)] [(.ref q1)])) rfl (by rw [hml]; rfl) rfl (hb hby d1_1) (by decide) (W := 0) (by show 2 * 0 + _ ≤ _; exact Nat.le_of_eq rfl) (by decide)
  refine own_st ?_ st1
  show own_Fin _ _ _ _ T1 (mkF m 4 #[.val (.ref q1)] [])
  refine own_aloadN X1 hx (hb hby d1_4) (pc' := 5) rfl rfl rfl ?_
  refine own_bipush X1 hx (hb hby d1_5) (pc' := 7) rfl (v := (64 : Int32)) rfl ?_
  obtain ⟨T2, h2, X2, e2, W2, st2⟩ := putF X1 hx hZ hown (host := "") (Or.inl (hw _ (List.mem_of_getElem? (i := 9) rfl))) Via.refl e1 F_left_q1 E_q1 (Or.inl (hw _ (List.mem_of_getElem? (i := 10) rfl))) (hw _ (List.mem_of_getElem? (i := 1) rfl)) (ty := .int) (by decide) rfl rfl (g := (mkF m 7 #[.val (.ref q1)] [(.int (64 : Int32)), (.ref q1)])) rfl rfl (hb hby d1_7)
  have E_q1_2 : Exa Z h2 q1 "com/example/typewire/typewire/pva/StructCode$Allowance" := E_q1.wr W2
  have F_q1_left_2 : Fld Z h2 q1 "com/example/typewire/typewire/pva/StructCode$Allowance" "left" "I" (.int (64 : Int32)) := F_left_q1.same W2
  have N2 := Fr.snoc X2 N0 g_q1
  have sz2 : n0 ≤ h2.size := Nat.le_trans Z0 (Keep.of_wr W2).1
  have K2 : Keep h0 h2 [q1] := K0.wr W2 (Or.inl (List.mem_of_getElem? (i := 0) rfl))
  refine own_st ?_ st2
  show own_Fin _ _ _ _ T2 (mkF m 10 #[.val (.ref q1)] [])
  refine own_retV X2 hx hret hlk (hb hby d1_10) (by decide) (by decide) ?_
  show own_Q1 Z q1 w_left_q1 h0 n0 _ T2.heap _
  rw [e2]
  exact ⟨rfl, N2, K2, E_q1_2, F_q1_left_2⟩
theorem ef_1 (m : MethodId) (q1 : Addr) : entryFrame m #[(.ref q1)] 1 = mkF m 0 #[.val (.ref q1)] [] := by first | (simp [entryFrame, mkF, argsToLocals, Value.category]; done) | rfl
set_option maxRecDepth 65536 in
set_option maxHeartbeats 40000000 in
theorem rm1 (l : Launch) (Z : State) (a0 : Array Value) (hw : ∀ d ∈ tables_1, d.before a0 Z = true) (ws : List Jvm.Cond) (q1 : Addr) (w_left_q1 : Int32) (h0 : Heap) (n0 : Nat) (Z0 : n0 ≤ h0.size) (E_q1 : Exa Z h0 q1 "com/example/typewire/typewire/pva/StructCode$Allowance") (g_q1 : n0 ≤ q1) (F_left_q1 : Fld Z h0 q1 "com/example/typewire/typewire/pva/StructCode$Allowance" "left" "I" (.int w_left_q1)) :
    MetFree l (⟨"com/example/typewire/typewire/pva/StructCode$Allowance", "<init>", "()V"⟩ : MethodName) (head1 (Jvm.Cond.code (⟨"com/example/typewire/typewire/pva/StructCode$Allowance", "<init>", "()V"⟩ : MethodName) prog_69_method_1_code 1 none :: ws) ({ frames := 1, cells := 0, slots := 0, locals := 12 } : Room)) (fun a U => a = #[(.ref q1)] ∧ Z.Warmed39 U.vm ∧ U.heap = h0) (fun _ _ _ _ _ => True) (fun _ U o U' => ∃ v L, o = .returned v ∧ (own_Q1 Z q1 w_left_q1 h0 n0) v U'.heap L ∧ FrameEnd U o U' L ({ frames := 1, cells := 0, slots := 0, locals := 12 } : Room).cells ({ frames := 1, cells := 0, slots := 0, locals := 12 } : Room).slots) := by
  refine MetFree.of_bodySF (plainFor_of_name pn_1) hisR ?_
  intro p e s m args below meth c s₁ Bd hml0 hP hK
  obtain ⟨rfl, hZ, hh⟩ := hP
  have hown : s.vm.findClass "com/example/typewire/typewire/pva/StructCode$Allowance" = some m.cls := findClass_of_methodNamed Bd.named
  have hnm := (name_of_methodNamed Bd.named Bd.method).1
  have X0 : Stand p l e ({ frames := 1, cells := 0, slots := 0, locals := 12 } : Room) s m #[(.ref q1)] below meth c s₁ [] 0 0 := Stand.of_body Bd
  have e0 : s₁.heap = h0 := by rw [← hh, Bd.state]; rfl
  have H := sg1_0 l hw Bd.exec hZ Bd.bytes hml0 hown hnm Bd.returns Bd.notSynchronized q1 w_left_q1 Z0 X0 (Fr.nil n0) e0 E_q1 g_q1 F_left_q1
  obtain ⟨t, h1, h2, o, h3, h4⟩ := H
  exact ⟨t, o, castTop (ef_1 m q1) h1, h2, h3, h4⟩
theorem d3_0 : decode prog_69_method_2_code 0 = .ok (.aload_n 0, 1) := by decide +kernel
theorem d3_1 : decode prog_69_method_2_code 1 = .ok (.getfield 9, 3) := by decide +kernel
theorem d3_4 : decode prog_69_method_2_code 4 = .ok (.ifCond .le 7, 3) := by decide +kernel
theorem d3_7 : decode prog_69_method_2_code 7 = .ok (.iconst 1, 1) := by decide +kernel
theorem d3_8 : decode prog_69_method_2_code 8 = .ok (.goto 4, 3) := by decide +kernel
theorem d3_11 : decode prog_69_method_2_code 11 = .ok (.iconst 0, 1) := by decide +kernel
theorem d3_12 : decode prog_69_method_2_code 12 = .ok (.istore_n 1, 1) := by decide +kernel
theorem d3_13 : decode prog_69_method_2_code 13 = .ok (.iload_n 1, 1) := by decide +kernel
theorem d3_14 : decode prog_69_method_2_code 14 = .ok (.ifCond .eq 13, 3) := by decide +kernel
theorem d3_17 : decode prog_69_method_2_code 17 = .ok (.aload_n 0, 1) := by decide +kernel
theorem d3_18 : decode prog_69_method_2_code 18 = .ok (.dup, 1) := by decide +kernel
theorem d3_19 : decode prog_69_method_2_code 19 = .ok (.getfield 9, 3) := by decide +kernel
theorem d3_22 : decode prog_69_method_2_code 22 = .ok (.iconst 1, 1) := by decide +kernel
theorem d3_23 : decode prog_69_method_2_code 23 = .ok (.isub, 1) := by decide +kernel
theorem d3_24 : decode prog_69_method_2_code 24 = .ok (.putfield 9, 3) := by decide +kernel
theorem d3_27 : decode prog_69_method_2_code 27 = .ok (.iload_n 1, 1) := by decide +kernel
theorem d3_28 : decode prog_69_method_2_code 28 = .ok (.ireturn, 1) := by decide +kernel
theorem pn_3 : plainName "com/example/typewire/typewire/pva/StructCode$Allowance" = true := by first | (simp [plainName, overriddenIn]; done) | decide +kernel
def own_f3 (w_left_q1 : Int32) : Int32 :=
  (1 : Int32)
def own_Q3 (Z : State) (q1 : Addr) (w_left_q1 : Int32) (h0 : Heap) (n0 : Nat) (v : Option Value) (h : Heap) (L : List Loc) : Prop := v = some (.int (own_f3 w_left_q1)) ∧ Fr n0 L ∧ Keep h0 h [q1] ∧ Exa Z h q1 "com/example/typewire/typewire/pva/StructCode$Allowance" ∧ Fld Z h q1 "com/example/typewire/typewire/pva/StructCode$Allowance" "left" "I" (.int (w_left_q1 - (1 : Int32)))
set_option maxRecDepth 65536 in
set_option maxHeartbeats 40000000 in
theorem sg3_0 {p : Program} (l : Launch) {e : Env} {s : State} {m : MethodId} {args : Array Value} {below : List Frame} {meth : Method} {c : Code} {Z : State} {a0 : Array Value} (hw : ∀ d ∈ tables_1, d.before a0 Z = true) (hx : p.tables.exec = Jvm.exec) (hZ : Z.Warmed39 s.vm) (hby : c.code = prog_69_method_2_code) (hml : c.maxLocals = 2) (hown : s.vm.findClass "com/example/typewire/typewire/pva/StructCode$Allowance" = some m.cls) (hnm : meth.name = "take") (hret : meth.sig.returnType = (some .boolean)) (hlk : meth.locks = false) (q1 : Addr) (w_left_q1 : Int32) {h0 : Heap} {n0 : Nat} (Z0 : n0 ≤ h0.size) {T0 : State} {L0 : List Loc} (X0 : Stand p l e ({ frames := 0, cells := 0, slots := 0, locals := 0 } : Room) s m args below meth c T0 L0 0 0) (N0 : Fr n0 L0) (e0 : T0.heap = h0) (E_q1 : Exa Z h0 q1 "com/example/typewire/typewire/pva/StructCode$Allowance") (g_q1 : n0 ≤ q1) (F_left_q1 : Fld Z h0 q1 "com/example/typewire/typewire/pva/StructCode$Allowance" "left" "I" (.int w_left_q1)) (hc4 : (0 : Int32) < w_left_q1) :
    own_Fin p.tables e below (own_End below s (own_Q3 Z q1 w_left_q1 h0 n0) 0 0) T0 (mkF m 0 #[.val (.ref q1), .unset] []) := by
  have K0 := Keep.refl h0 [q1]
  refine own_aloadN X0 hx (hb hby d3_0) (pc' := 1) rfl rfl rfl ?_
  refine own_getF X0 hx hZ hown (hw _ (List.mem_of_getElem? (i := 9) rfl)) Via.refl e0 F_left_q1 (hb hby d3_1) (pc' := 4) rfl (fun T3 X3 e3 => ?_)
  refine own_ifNo X3 hx (hb hby d3_4) (pc' := 7) rfl ((if0 _ _).trans (tlt hc4).2.2.2) ?_
  refine own_iconst X3 hx (hb hby d3_7) (pc' := 8) rfl (v := (1 : Int32)) rfl ?_
  refine own_goto X3 hx (hb hby d3_8) (pc' := 12) (by decide) (by decide) ?_
  refine own_istoreN X3 hx (hb hby d3_12) (pc' := 13) rfl (Ls' := #[.val (.ref q1), .val (.int (1 : Int32))]) rfl ?_
  refine own_iloadN X3 hx (hb hby d3_13) (pc' := 14) rfl rfl ?_
  refine own_ifNo X3 hx (hb hby d3_14) (pc' := 17) rfl ((if0 _ _).trans (feq (by decide : ¬ ((1 : Int32) = (0 : Int32)))).1) ?_
  refine own_aloadN X3 hx (hb hby d3_17) (pc' := 18) rfl rfl rfl ?_
  refine own_dup X3 hx (hb hby d3_18) (pc' := 19) rfl rfl ?_
  refine own_getF X3 hx hZ hown (hw _ (List.mem_of_getElem? (i := 9) rfl)) Via.refl e3 F_left_q1 (hb hby d3_19) (pc' := 22) rfl (fun T4 X4 e4 => ?_)
  refine own_iconst X4 hx (hb hby d3_22) (pc' := 23) rfl (v := (1 : Int32)) rfl ?_
  refine own_isub X4 hx (hb hby d3_23) (pc' := 24) rfl ?_
  obtain ⟨T5, h5, X5, e5, W5, st5⟩ := putF X4 hx hZ hown (host := "") (Or.inl (hw _ (List.mem_of_getElem? (i := 9) rfl))) Via.refl e4 F_left_q1 E_q1 (Or.inl (hw _ (List.mem_of_getElem? (i := 10) rfl))) (hw _ (List.mem_of_getElem? (i := 1) rfl)) (ty := .int) (by decide) rfl rfl (g := (mkF m 24 #[.val (.ref q1), .val (.int (1 : Int32))] [(.int (w_left_q1 - (1 : Int32))), (.ref q1)])) rfl rfl (hb hby d3_24)
  have E_q1_5 : Exa Z h5 q1 "com/example/typewire/typewire/pva/StructCode$Allowance" := E_q1.wr W5
  have F_q1_left_5 : Fld Z h5 q1 "com/example/typewire/typewire/pva/StructCode$Allowance" "left" "I" (.int (w_left_q1 - (1 : Int32))) := F_left_q1.same W5
  have N5 := Fr.snoc X5 N0 g_q1
  have sz5 : n0 ≤ h5.size := Nat.le_trans Z0 (Keep.of_wr W5).1
  have K5 : Keep h0 h5 [q1] := K0.wr W5 (Or.inl (List.mem_of_getElem? (i := 0) rfl))
  refine own_st ?_ st5
  show own_Fin _ _ _ _ T5 (mkF m 27 #[.val (.ref q1), .val (.int (1 : Int32))] [])
  refine own_iloadN X5 hx (hb hby d3_27) (pc' := 28) rfl rfl ?_
  refine own_retN X5 hx (t := .boolean) hret (by simp) hlk (hb hby d3_28) (by decide) (by decide) ?_
  show own_Q3 Z q1 w_left_q1 h0 n0 _ T5.heap _
  rw [e5]
  exact ⟨(congrArg some (congrArg Value.int (show _ = (own_f3 w_left_q1) from by rw [own_f3]; rfl))), N5, K5, E_q1_5, F_q1_left_5⟩
theorem ef_3 (m : MethodId) (q1 : Addr) : entryFrame m #[(.ref q1)] 2 = mkF m 0 #[.val (.ref q1), .unset] [] := by first | (simp [entryFrame, mkF, argsToLocals, Value.category]; done) | rfl
set_option maxRecDepth 65536 in
set_option maxHeartbeats 40000000 in
theorem rm3 (l : Launch) (Z : State) (a0 : Array Value) (hw : ∀ d ∈ tables_1, d.before a0 Z = true) (ws : List Jvm.Cond) (q1 : Addr) (w_left_q1 : Int32) (h0 : Heap) (n0 : Nat) (Z0 : n0 ≤ h0.size) (E_q1 : Exa Z h0 q1 "com/example/typewire/typewire/pva/StructCode$Allowance") (g_q1 : n0 ≤ q1) (F_left_q1 : Fld Z h0 q1 "com/example/typewire/typewire/pva/StructCode$Allowance" "left" "I" (.int w_left_q1)) (hc4 : (0 : Int32) < w_left_q1) :
    MetFree l (⟨"com/example/typewire/typewire/pva/StructCode$Allowance", "take", "()Z"⟩ : MethodName) (head1 (Jvm.Cond.code (⟨"com/example/typewire/typewire/pva/StructCode$Allowance", "take", "()Z"⟩ : MethodName) prog_69_method_2_code 2 (some .boolean) :: ws) ({ frames := 0, cells := 0, slots := 0, locals := 0 } : Room)) (fun a U => a = #[(.ref q1)] ∧ Z.Warmed39 U.vm ∧ U.heap = h0) (fun _ _ _ _ _ => True) (fun _ U o U' => ∃ v L, o = .returned v ∧ (own_Q3 Z q1 w_left_q1 h0 n0) v U'.heap L ∧ FrameEnd U o U' L ({ frames := 0, cells := 0, slots := 0, locals := 0 } : Room).cells ({ frames := 0, cells := 0, slots := 0, locals := 0 } : Room).slots) := by
  refine MetFree.of_bodySF (plainFor_of_name pn_3) hisR ?_
  intro p e s m args below meth c s₁ Bd hml0 hP hK
  obtain ⟨rfl, hZ, hh⟩ := hP
  have hown : s.vm.findClass "com/example/typewire/typewire/pva/StructCode$Allowance" = some m.cls := findClass_of_methodNamed Bd.named
  have hnm := (name_of_methodNamed Bd.named Bd.method).1
  have X0 : Stand p l e ({ frames := 0, cells := 0, slots := 0, locals := 0 } : Room) s m #[(.ref q1)] below meth c s₁ [] 0 0 := Stand.of_body Bd
  have e0 : s₁.heap = h0 := by rw [← hh, Bd.state]; rfl
  have H := sg3_0 l hw Bd.exec hZ Bd.bytes hml0 hown hnm Bd.returns Bd.notSynchronized q1 w_left_q1 Z0 X0 (Fr.nil n0) e0 E_q1 g_q1 F_left_q1 hc4
  obtain ⟨t, h1, h2, o, h3, h4⟩ := H
  exact ⟨t, o, castTop (ef_3 m q1) h1, h2, h3, h4⟩
theorem pn_0 : plainName "com/example/typewire/typewire/pva/AllowanceTakePinLaw" = true := by first | (simp [plainName, overriddenIn]; done) | decide +kernel
def own_f0 (q1 : Int32) : Int32 :=
  if (q1 &&& (7 : Int32)) < (1 : Int32) then (1 : Int32) else
  if (q1 &&& (7 : Int32)) < (2 : Int32) then (1 : Int32) else
  if (q1 &&& (7 : Int32)) < (3 : Int32) then (1 : Int32) else
  if (q1 &&& (7 : Int32)) < (4 : Int32) then (1 : Int32) else
  if (q1 &&& (7 : Int32)) < (5 : Int32) then (1 : Int32) else
  if (q1 &&& (7 : Int32)) < (6 : Int32) then (1 : Int32) else
  if (q1 &&& (7 : Int32)) < (7 : Int32) then (1 : Int32) else
  (1 : Int32)
set_option maxRecDepth 65536 in
set_option maxHeartbeats 40000000 in
theorem sg0_0 {p : Program} (l : Launch) {e : Env} {s : State} {m : MethodId} {args : Array Value} {below : List Frame} {meth : Method} {c : Code} {Z : State} {a0 : Array Value} (hw : ∀ d ∈ tables_1, d.before a0 Z = true) (hx : p.tables.exec = Jvm.exec) (hZ : Z.Warmed39 s.vm) (hby : c.code = code) (hml : c.maxLocals = 4) (hown : s.vm.findClass "com/example/typewire/typewire/pva/AllowanceTakePinLaw" = some m.cls) (hnm : meth.name = "law") (hret : meth.sig.returnType = (some .boolean)) (hlk : meth.locks = false) (q1 : Int32) {h0 : Heap} {n0 : Nat} (Z0 : n0 ≤ h0.size) {T0 : State} {L0 : List Loc} (X0 : Stand p l e room_1 s m args below meth c T0 L0 0 0) (N0 : Fr n0 L0) (e0 : T0.heap = h0)  :
    own_Fin p.tables e below (own_End below s (own_L n0 (.int (own_f0 q1))) 1 1) T0 (mkF m 0 #[.val (.int q1), .unset, .unset, .unset] []) := by
  obtain ⟨T6, h6, X6, e6, E6, A6, D6, -, st6⟩ := newO X0 hx hZ hown (hw _ (List.mem_of_getElem? (i := 0) rfl)) (hw _ (List.mem_of_getElem? (i := 1) rfl)) (hw _ (List.mem_of_getElem? (i := 2) rfl)) e0 (g := (mkF m 0 #[.val (.int q1), .unset, .unset, .unset] [])) rfl (hb hby at_0) (by decide) (by decide)
  obtain ⟨b6, g6⟩ : ∃ z, z = h0.size := ⟨_, rfl⟩
  rw [← g6] at A6 D6 st6
  have g_b6 : n0 ≤ b6 := Nat.le_trans Z0 (Nat.le_of_eq g6.symm)
  have F_b6_left_6 : Fld Z h6 b6 "com/example/typewire/typewire/pva/StructCode$Allowance" "left" "I" (.int (0 : Int32)) := D6 (Or.inl (hw _ (List.mem_of_getElem? (i := 10) rfl))) (ty := .int) (by decide)
  have sz6 : n0 ≤ h6.size := Nat.le_trans Z0 E6.1
  refine own_st ?_ st6
  show own_Fin _ _ _ _ T6 (mkF m 3 #[.val (.int q1), .unset, .unset, .unset] [(.ref b6)])
  refine own_dup X6 hx (hb hby at_3) (pc' := 4) rfl rfl ?_
  obtain ⟨_, _, ⟨T7, L7, k7, n7⟩, -, X7, ⟨Lc7, hQ7, l7, y7, z7⟩, st7⟩ := X6.specialBack hx (y := (⟨"com/example/typewire/typewire/pva/StructCode$Allowance", "<init>", "()V"⟩ : MethodName)) rfl hown (mvT hZ (hw _ (List.mem_of_getElem? (i := 3) rfl))) (mvT hZ (hw _ (List.mem_of_getElem? (i := 4) rfl))) (mvT hZ (hw _ (List.mem_of_getElem? (i := 5) rfl))) (by decide) (backOf (W := 1) (rm1 l Z a0 hw [] b6 (0 : Int32) h6 n0 sz6 A6 g_b6 F_b6_left_6) hZ (hw _ (List.mem_of_getElem? (i := 5) rfl)) (hw _ (List.mem_of_getElem? (i := 2) rfl)) (by decide) (by decide)) (g := (mkF m 4 #[.val (.int q1), .unset, .unset, .unset] [(.ref b6), (.ref b6)])) rfl (by rw [hml]; rfl) (Steps.refl _) (a := b6) (argsL := []) (rest := [(.ref b6)]) (lenOf pd_0 rfl) rfl (by show 2 * 0 + _ ≤ _; exact Nat.le_of_eq rfl) (hb hby at_4) (fun _ _ => ⟨rfl, e6, (by decide : 1 + 0 ≤ _), (by decide : 1 + 0 ≤ _)⟩)
  dsimp only [Pt.U, Pt.locs, Pt.cells, Pt.slots] at X7 l7 y7 z7 st7 hQ7
  subst l7 y7 z7
  obtain ⟨rfl, N7q, K7', E_b6_7, F_b6_left_7⟩ := hQ7
  have sz7 : n0 ≤ T7.heap.size := Nat.le_trans sz6 K7'.1
  have N7 := Fr.app N0 N7q
  refine own_st ?_ (fun t k => st7.trans k)
  show own_Fin _ _ _ _ T7 (mkF m 7 #[.val (.int q1), .unset, .unset, .unset] [(.ref b6)])
  refine own_astoreN X7 hx (hb hby at_7) (pc' := 8) rfl (Ls' := #[.val (.int q1), .val (.ref b6), .unset, .unset]) rfl rfl ?_
  refine own_iloadN X7 hx (hb hby at_8) (pc' := 9) rfl rfl ?_
  refine own_bipush X7 hx (hb hby at_9) (pc' := 11) rfl (v := (7 : Int32)) rfl ?_
  refine own_iand X7 hx (hb hby at_11) (pc' := 12) rfl ?_
  refine own_istoreN X7 hx (hb hby at_12) (pc' := 13) rfl (Ls' := #[.val (.int q1), .val (.ref b6), .val (.int (q1 &&& (7 : Int32))), .unset]) rfl ?_
  refine own_aloadN X7 hx (hb hby at_13) (pc' := 14) rfl rfl rfl ?_
  obtain ⟨cq8, kq8, q8a, q8b, q8c⟩ := isOf hZ rfl E_b6_7
  obtain ⟨_, _, ⟨T8, L8, k8, n8⟩, -, X8, ⟨Lc8, hQ8, l8, y8, z8⟩, st8⟩ := X7.virtualBack hx (y := (⟨"com/example/typewire/typewire/pva/StructCode$Allowance", "take", "()Z"⟩ : MethodName)) (z := (⟨"com/example/typewire/typewire/pva/StructCode$Allowance", "take", "()Z"⟩ : MethodName)) hown (mvT hZ (hw _ (List.mem_of_getElem? (i := 11) rfl))) (mvT hZ (hw _ (List.mem_of_getElem? (i := 12) rfl))) (notFace_of_selects (args := #[]) (mvT hZ (hw _ (List.mem_of_getElem? (i := 14) rfl)))) (mvT hZ (hw _ (List.mem_of_getElem? (i := 14) rfl))) (mvT hZ (hw _ (List.mem_of_getElem? (i := 13) rfl))) (by decide) (backOf (W := 0) (rm3 l Z a0 hw [] b6 (64 : Int32) T7.heap n0 sz7 E_b6_7 g_b6 F_b6_left_7 (by decide)) hZ (hw _ (List.mem_of_getElem? (i := 15) rfl)) (hw _ (List.mem_of_getElem? (i := 2) rfl)) (by decide) (by decide)) q8a q8c (g := (mkF m 14 #[.val (.int q1), .val (.ref b6), .val (.int (q1 &&& (7 : Int32))), .unset] [(.ref b6)])) rfl (by rw [hml]; rfl) (Steps.refl _) (argsL := []) (rest := []) (lenOf pd_1 rfl) rfl (by show 2 * 0 + _ ≤ _; exact Nat.le_of_eq rfl) (hb hby at_14) (fun _ _ => ⟨rfl, rfl, (by decide : 1 + 0 ≤ _), (by decide : 1 + 0 ≤ _)⟩)
  dsimp only [Pt.U, Pt.locs, Pt.cells, Pt.slots] at X8 l8 y8 z8 st8 hQ8
  subst l8 y8 z8
  obtain ⟨rfl, N8q, K8', E_b6_8, F_b6_left_8⟩ := hQ8
  have sz8 : n0 ≤ T8.heap.size := Nat.le_trans sz7 K8'.1
  have N8 := Fr.app N7 N8q
  refine own_st ?_ (fun t k => st8.trans k)
  show own_Fin _ _ _ _ T8 (mkF m 17 #[.val (.int q1), .val (.ref b6), .val (.int (q1 &&& (7 : Int32))), .unset] [(.int (1 : Int32))])
  refine own_istoreN X8 hx (hb hby at_17) (pc' := 18) rfl (Ls' := #[.val (.int q1), .val (.ref b6), .val (.int (q1 &&& (7 : Int32))), .val (.int (1 : Int32))]) rfl ?_
  refine own_iloadN X8 hx (hb hby at_18) (pc' := 19) rfl rfl ?_
  refine own_iconst X8 hx (hb hby at_19) (pc' := 20) rfl (v := (1 : Int32)) rfl ?_
  by_cases hc9 : (q1 &&& (7 : Int32)) < (1 : Int32)
  · refine own_icmpYes X8 hx (hb hby at_20) (tlt hc9).1 (pc' := 30) (by decide) (by decide) ?_
    refine own_iloadN X8 hx (hb hby at_30) (pc' := 31) rfl rfl ?_
    refine own_iconst X8 hx (hb hby at_31) (pc' := 32) rfl (v := (2 : Int32)) rfl ?_
    refine own_icmpYes X8 hx (hb hby at_32) (tlt (Int32.lt_of_lt_of_le hc9 (by decide))).1 (pc' := 42) (by decide) (by decide) ?_
    refine own_iloadN X8 hx (hb hby at_42) (pc' := 43) rfl rfl ?_
    refine own_iconst X8 hx (hb hby at_43) (pc' := 44) rfl (v := (3 : Int32)) rfl ?_
    refine own_icmpYes X8 hx (hb hby at_44) (tlt (Int32.lt_of_lt_of_le hc9 (by decide))).1 (pc' := 54) (by decide) (by decide) ?_
    refine own_iloadN X8 hx (hb hby at_54) (pc' := 55) rfl rfl ?_
    refine own_iconst X8 hx (hb hby at_55) (pc' := 56) rfl (v := (4 : Int32)) rfl ?_
    refine own_icmpYes X8 hx (hb hby at_56) (tlt (Int32.lt_of_lt_of_le hc9 (by decide))).1 (pc' := 66) (by decide) (by decide) ?_
    refine own_iloadN X8 hx (hb hby at_66) (pc' := 67) rfl rfl ?_
    refine own_iconst X8 hx (hb hby at_67) (pc' := 68) rfl (v := (5 : Int32)) rfl ?_
    refine own_icmpYes X8 hx (hb hby at_68) (tlt (Int32.lt_of_lt_of_le hc9 (by decide))).1 (pc' := 78) (by decide) (by decide) ?_
    refine own_iloadN X8 hx (hb hby at_78) (pc' := 79) rfl rfl ?_
    refine own_bipush X8 hx (hb hby at_79) (pc' := 81) rfl (v := (6 : Int32)) rfl ?_
    refine own_icmpYes X8 hx (hb hby at_81) (tlt (Int32.lt_of_lt_of_le hc9 (by decide))).1 (pc' := 91) (by decide) (by decide) ?_
    refine own_iloadN X8 hx (hb hby at_91) (pc' := 92) rfl rfl ?_
    refine own_bipush X8 hx (hb hby at_92) (pc' := 94) rfl (v := (7 : Int32)) rfl ?_
    refine own_icmpYes X8 hx (hb hby at_94) (tlt (Int32.lt_of_lt_of_le hc9 (by decide))).1 (pc' := 104) (by decide) (by decide) ?_
    refine own_iloadN X8 hx (hb hby at_104) (pc' := 105) rfl rfl ?_
    refine own_retN X8 hx (t := .boolean) hret (by simp) hlk (hb hby at_105) (by decide) (by decide) ?_
    exact ⟨(congrArg some (congrArg Value.int (show _ = (own_f0 q1) from by rw [own_f0, if_pos hc9]; rfl))), N8⟩
  · refine own_icmpNo X8 hx (hb hby at_20) (pc' := 23) rfl (flt hc9).1 ?_
    refine own_iloadN X8 hx (hb hby at_23) (pc' := 24) rfl rfl ?_
    refine own_aloadN X8 hx (hb hby at_24) (pc' := 25) rfl rfl rfl ?_
    obtain ⟨cq10, kq10, q10a, q10b, q10c⟩ := isOf hZ rfl E_b6_8
    obtain ⟨_, _, ⟨T10, L10, k10, n10⟩, -, X10, ⟨Lc10, hQ10, l10, y10, z10⟩, st10⟩ := X8.virtualBack hx (y := (⟨"com/example/typewire/typewire/pva/StructCode$Allowance", "take", "()Z"⟩ : MethodName)) (z := (⟨"com/example/typewire/typewire/pva/StructCode$Allowance", "take", "()Z"⟩ : MethodName)) hown (mvT hZ (hw _ (List.mem_of_getElem? (i := 11) rfl))) (mvT hZ (hw _ (List.mem_of_getElem? (i := 12) rfl))) (notFace_of_selects (args := #[]) (mvT hZ (hw _ (List.mem_of_getElem? (i := 14) rfl)))) (mvT hZ (hw _ (List.mem_of_getElem? (i := 14) rfl))) (mvT hZ (hw _ (List.mem_of_getElem? (i := 13) rfl))) (by decide) (backOf (W := 1) (rm3 l Z a0 hw [] b6 ((64 : Int32) - (1 : Int32)) T8.heap n0 sz8 E_b6_8 g_b6 F_b6_left_8 (by decide)) hZ (hw _ (List.mem_of_getElem? (i := 15) rfl)) (hw _ (List.mem_of_getElem? (i := 2) rfl)) (by decide) (by decide)) q10a q10c (g := (mkF m 25 #[.val (.int q1), .val (.ref b6), .val (.int (q1 &&& (7 : Int32))), .val (.int (1 : Int32))] [(.ref b6), (.int (1 : Int32))])) rfl (by rw [hml]; rfl) (Steps.refl _) (argsL := []) (rest := [(.int (1 : Int32))]) (lenOf pd_1 rfl) rfl (by show 2 * 0 + _ ≤ _; exact Nat.le_of_eq rfl) (hb hby at_25) (fun _ _ => ⟨rfl, rfl, (by decide : 1 + 0 ≤ _), (by decide : 1 + 0 ≤ _)⟩)
    dsimp only [Pt.U, Pt.locs, Pt.cells, Pt.slots] at X10 l10 y10 z10 st10 hQ10
    subst l10 y10 z10
    obtain ⟨rfl, N10q, K10', E_b6_10, F_b6_left_10⟩ := hQ10
    have sz10 : n0 ≤ T10.heap.size := Nat.le_trans sz8 K10'.1
    have N10 := Fr.app N8 N10q
    refine own_st ?_ (fun t k => st10.trans k)
    show own_Fin _ _ _ _ T10 (mkF m 28 #[.val (.int q1), .val (.ref b6), .val (.int (q1 &&& (7 : Int32))), .val (.int (1 : Int32))] [(.int (1 : Int32)), (.int (1 : Int32))])
    refine own_iand X10 hx (hb hby at_28) (pc' := 29) rfl ?_
    show own_Fin _ _ _ _ T10 (mkF m 29 #[.val (.int q1), .val (.ref b6), .val (.int (q1 &&& (7 : Int32))), .val (.int (1 : Int32))] [(.int (1 : Int32))])
    refine own_istoreN X10 hx (hb hby at_29) (pc' := 30) rfl (Ls' := #[.val (.int q1), .val (.ref b6), .val (.int (q1 &&& (7 : Int32))), .val (.int (1 : Int32))]) rfl ?_
    refine own_iloadN X10 hx (hb hby at_30) (pc' := 31) rfl rfl ?_
    refine own_iconst X10 hx (hb hby at_31) (pc' := 32) rfl (v := (2 : Int32)) rfl ?_
    by_cases hc11 : (q1 &&& (7 : Int32)) < (2 : Int32)
    · refine own_icmpYes X10 hx (hb hby at_32) (tlt hc11).1 (pc' := 42) (by decide) (by decide) ?_
      refine own_iloadN X10 hx (hb hby at_42) (pc' := 43) rfl rfl ?_
      refine own_iconst X10 hx (hb hby at_43) (pc' := 44) rfl (v := (3 : Int32)) rfl ?_
      refine own_icmpYes X10 hx (hb hby at_44) (tlt (Int32.lt_of_lt_of_le hc11 (by decide))).1 (pc' := 54) (by decide) (by decide) ?_
      refine own_iloadN X10 hx (hb hby at_54) (pc' := 55) rfl rfl ?_
      refine own_iconst X10 hx (hb hby at_55) (pc' := 56) rfl (v := (4 : Int32)) rfl ?_
      refine own_icmpYes X10 hx (hb hby at_56) (tlt (Int32.lt_of_lt_of_le hc11 (by decide))).1 (pc' := 66) (by decide) (by decide) ?_
      refine own_iloadN X10 hx (hb hby at_66) (pc' := 67) rfl rfl ?_
      refine own_iconst X10 hx (hb hby at_67) (pc' := 68) rfl (v := (5 : Int32)) rfl ?_
      refine own_icmpYes X10 hx (hb hby at_68) (tlt (Int32.lt_of_lt_of_le hc11 (by decide))).1 (pc' := 78) (by decide) (by decide) ?_
      refine own_iloadN X10 hx (hb hby at_78) (pc' := 79) rfl rfl ?_
      refine own_bipush X10 hx (hb hby at_79) (pc' := 81) rfl (v := (6 : Int32)) rfl ?_
      refine own_icmpYes X10 hx (hb hby at_81) (tlt (Int32.lt_of_lt_of_le hc11 (by decide))).1 (pc' := 91) (by decide) (by decide) ?_
      refine own_iloadN X10 hx (hb hby at_91) (pc' := 92) rfl rfl ?_
      refine own_bipush X10 hx (hb hby at_92) (pc' := 94) rfl (v := (7 : Int32)) rfl ?_
      refine own_icmpYes X10 hx (hb hby at_94) (tlt (Int32.lt_of_lt_of_le hc11 (by decide))).1 (pc' := 104) (by decide) (by decide) ?_
      refine own_iloadN X10 hx (hb hby at_104) (pc' := 105) rfl rfl ?_
      refine own_retN X10 hx (t := .boolean) hret (by simp) hlk (hb hby at_105) (by decide) (by decide) ?_
      exact ⟨(congrArg some (congrArg Value.int (show _ = (own_f0 q1) from by rw [own_f0, if_neg hc9, if_pos hc11]; rfl))), N10⟩
    · refine own_icmpNo X10 hx (hb hby at_32) (pc' := 35) rfl (flt hc11).1 ?_
      refine own_iloadN X10 hx (hb hby at_35) (pc' := 36) rfl rfl ?_
      refine own_aloadN X10 hx (hb hby at_36) (pc' := 37) rfl rfl rfl ?_
      obtain ⟨cq12, kq12, q12a, q12b, q12c⟩ := isOf hZ rfl E_b6_10
      obtain ⟨_, _, ⟨T12, L12, k12, n12⟩, -, X12, ⟨Lc12, hQ12, l12, y12, z12⟩, st12⟩ := X10.virtualBack hx (y := (⟨"com/example/typewire/typewire/pva/StructCode$Allowance", "take", "()Z"⟩ : MethodName)) (z := (⟨"com/example/typewire/typewire/pva/StructCode$Allowance", "take", "()Z"⟩ : MethodName)) hown (mvT hZ (hw _ (List.mem_of_getElem? (i := 11) rfl))) (mvT hZ (hw _ (List.mem_of_getElem? (i := 12) rfl))) (notFace_of_selects (args := #[]) (mvT hZ (hw _ (List.mem_of_getElem? (i := 14) rfl)))) (mvT hZ (hw _ (List.mem_of_getElem? (i := 14) rfl))) (mvT hZ (hw _ (List.mem_of_getElem? (i := 13) rfl))) (by decide) (backOf (W := 1) (rm3 l Z a0 hw [] b6 (((64 : Int32) - (1 : Int32)) - (1 : Int32)) T10.heap n0 sz10 E_b6_10 g_b6 F_b6_left_10 (by decide)) hZ (hw _ (List.mem_of_getElem? (i := 15) rfl)) (hw _ (List.mem_of_getElem? (i := 2) rfl)) (by decide) (by decide)) q12a q12c (g := (mkF m 37 #[.val (.int q1), .val (.ref b6), .val (.int (q1 &&& (7 : Int32))), .val (.int (1 : Int32))] [(.ref b6), (.int (1 : Int32))])) rfl (by rw [hml]; rfl) (Steps.refl _) (argsL := []) (rest := [(.int (1 : Int32))]) (lenOf pd_1 rfl) rfl (by show 2 * 0 + _ ≤ _; exact Nat.le_of_eq rfl) (hb hby at_37) (fun _ _ => ⟨rfl, rfl, (by decide : 1 + 0 ≤ _), (by decide : 1 + 0 ≤ _)⟩)
      dsimp only [Pt.U, Pt.locs, Pt.cells, Pt.slots] at X12 l12 y12 z12 st12 hQ12
      subst l12 y12 z12
      obtain ⟨rfl, N12q, K12', E_b6_12, F_b6_left_12⟩ := hQ12
      have sz12 : n0 ≤ T12.heap.size := Nat.le_trans sz10 K12'.1
      have N12 := Fr.app N10 N12q
      refine own_st ?_ (fun t k => st12.trans k)
      show own_Fin _ _ _ _ T12 (mkF m 40 #[.val (.int q1), .val (.ref b6), .val (.int (q1 &&& (7 : Int32))), .val (.int (1 : Int32))] [(.int (1 : Int32)), (.int (1 : Int32))])
      refine own_iand X12 hx (hb hby at_40) (pc' := 41) rfl ?_
      show own_Fin _ _ _ _ T12 (mkF m 41 #[.val (.int q1), .val (.ref b6), .val (.int (q1 &&& (7 : Int32))), .val (.int (1 : Int32))] [(.int (1 : Int32))])
      refine own_istoreN X12 hx (hb hby at_41) (pc' := 42) rfl (Ls' := #[.val (.int q1), .val (.ref b6), .val (.int (q1 &&& (7 : Int32))), .val (.int (1 : Int32))]) rfl ?_
      refine own_iloadN X12 hx (hb hby at_42) (pc' := 43) rfl rfl ?_
      refine own_iconst X12 hx (hb hby at_43) (pc' := 44) rfl (v := (3 : Int32)) rfl ?_
      by_cases hc13 : (q1 &&& (7 : Int32)) < (3 : Int32)
      · refine own_icmpYes X12 hx (hb hby at_44) (tlt hc13).1 (pc' := 54) (by decide) (by decide) ?_
        refine own_iloadN X12 hx (hb hby at_54) (pc' := 55) rfl rfl ?_
        refine own_iconst X12 hx (hb hby at_55) (pc' := 56) rfl (v := (4 : Int32)) rfl ?_
        refine own_icmpYes X12 hx (hb hby at_56) (tlt (Int32.lt_of_lt_of_le hc13 (by decide))).1 (pc' := 66) (by decide) (by decide) ?_
        refine own_iloadN X12 hx (hb hby at_66) (pc' := 67) rfl rfl ?_
        refine own_iconst X12 hx (hb hby at_67) (pc' := 68) rfl (v := (5 : Int32)) rfl ?_
        refine own_icmpYes X12 hx (hb hby at_68) (tlt (Int32.lt_of_lt_of_le hc13 (by decide))).1 (pc' := 78) (by decide) (by decide) ?_
        refine own_iloadN X12 hx (hb hby at_78) (pc' := 79) rfl rfl ?_
        refine own_bipush X12 hx (hb hby at_79) (pc' := 81) rfl (v := (6 : Int32)) rfl ?_
        refine own_icmpYes X12 hx (hb hby at_81) (tlt (Int32.lt_of_lt_of_le hc13 (by decide))).1 (pc' := 91) (by decide) (by decide) ?_
        refine own_iloadN X12 hx (hb hby at_91) (pc' := 92) rfl rfl ?_
        refine own_bipush X12 hx (hb hby at_92) (pc' := 94) rfl (v := (7 : Int32)) rfl ?_
        refine own_icmpYes X12 hx (hb hby at_94) (tlt (Int32.lt_of_lt_of_le hc13 (by decide))).1 (pc' := 104) (by decide) (by decide) ?_
        refine own_iloadN X12 hx (hb hby at_104) (pc' := 105) rfl rfl ?_
        refine own_retN X12 hx (t := .boolean) hret (by simp) hlk (hb hby at_105) (by decide) (by decide) ?_
        exact ⟨(congrArg some (congrArg Value.int (show _ = (own_f0 q1) from by rw [own_f0, if_neg hc9, if_neg hc11, if_pos hc13]; rfl))), N12⟩
      · refine own_icmpNo X12 hx (hb hby at_44) (pc' := 47) rfl (flt hc13).1 ?_
        refine own_iloadN X12 hx (hb hby at_47) (pc' := 48) rfl rfl ?_
        refine own_aloadN X12 hx (hb hby at_48) (pc' := 49) rfl rfl rfl ?_
        obtain ⟨cq14, kq14, q14a, q14b, q14c⟩ := isOf hZ rfl E_b6_12
        obtain ⟨_, _, ⟨T14, L14, k14, n14⟩, -, X14, ⟨Lc14, hQ14, l14, y14, z14⟩, st14⟩ := X12.virtualBack hx (y := (⟨"com/example/typewire/typewire/pva/StructCode$Allowance", "take", "()Z"⟩ : MethodName)) (z := (⟨"com/example/typewire/typewire/pva/StructCode$Allowance", "take", "()Z"⟩ : MethodName)) hown (mvT hZ (hw _ (List.mem_of_getElem? (i := 11) rfl))) (mvT hZ (hw _ (List.mem_of_getElem? (i := 12) rfl))) (notFace_of_selects (args := #[]) (mvT hZ (hw _ (List.mem_of_getElem? (i := 14) rfl)))) (mvT hZ (hw _ (List.mem_of_getElem? (i := 14) rfl))) (mvT hZ (hw _ (List.mem_of_getElem? (i := 13) rfl))) (by decide) (backOf (W := 1) (rm3 l Z a0 hw [] b6 ((((64 : Int32) - (1 : Int32)) - (1 : Int32)) - (1 : Int32)) T12.heap n0 sz12 E_b6_12 g_b6 F_b6_left_12 (by decide)) hZ (hw _ (List.mem_of_getElem? (i := 15) rfl)) (hw _ (List.mem_of_getElem? (i := 2) rfl)) (by decide) (by decide)) q14a q14c (g := (mkF m 49 #[.val (.int q1), .val (.ref b6), .val (.int (q1 &&& (7 : Int32))), .val (.int (1 : Int32))] [(.ref b6), (.int (1 : Int32))])) rfl (by rw [hml]; rfl) (Steps.refl _) (argsL := []) (rest := [(.int (1 : Int32))]) (lenOf pd_1 rfl) rfl (by show 2 * 0 + _ ≤ _; exact Nat.le_of_eq rfl) (hb hby at_49) (fun _ _ => ⟨rfl, rfl, (by decide : 1 + 0 ≤ _), (by decide : 1 + 0 ≤ _)⟩)
        dsimp only [Pt.U, Pt.locs, Pt.cells, Pt.slots] at X14 l14 y14 z14 st14 hQ14
        subst l14 y14 z14
        obtain ⟨rfl, N14q, K14', E_b6_14, F_b6_left_14⟩ := hQ14
        have sz14 : n0 ≤ T14.heap.size := Nat.le_trans sz12 K14'.1
        have N14 := Fr.app N12 N14q
        refine own_st ?_ (fun t k => st14.trans k)
        show own_Fin _ _ _ _ T14 (mkF m 52 #[.val (.int q1), .val (.ref b6), .val (.int (q1 &&& (7 : Int32))), .val (.int (1 : Int32))] [(.int (1 : Int32)), (.int (1 : Int32))])
        refine own_iand X14 hx (hb hby at_52) (pc' := 53) rfl ?_
        show own_Fin _ _ _ _ T14 (mkF m 53 #[.val (.int q1), .val (.ref b6), .val (.int (q1 &&& (7 : Int32))), .val (.int (1 : Int32))] [(.int (1 : Int32))])
        refine own_istoreN X14 hx (hb hby at_53) (pc' := 54) rfl (Ls' := #[.val (.int q1), .val (.ref b6), .val (.int (q1 &&& (7 : Int32))), .val (.int (1 : Int32))]) rfl ?_
        refine own_iloadN X14 hx (hb hby at_54) (pc' := 55) rfl rfl ?_
        refine own_iconst X14 hx (hb hby at_55) (pc' := 56) rfl (v := (4 : Int32)) rfl ?_
        by_cases hc15 : (q1 &&& (7 : Int32)) < (4 : Int32)
        · refine own_icmpYes X14 hx (hb hby at_56) (tlt hc15).1 (pc' := 66) (by decide) (by decide) ?_
          refine own_iloadN X14 hx (hb hby at_66) (pc' := 67) rfl rfl ?_
          refine own_iconst X14 hx (hb hby at_67) (pc' := 68) rfl (v := (5 : Int32)) rfl ?_
          refine own_icmpYes X14 hx (hb hby at_68) (tlt (Int32.lt_of_lt_of_le hc15 (by decide))).1 (pc' := 78) (by decide) (by decide) ?_
          refine own_iloadN X14 hx (hb hby at_78) (pc' := 79) rfl rfl ?_
          refine own_bipush X14 hx (hb hby at_79) (pc' := 81) rfl (v := (6 : Int32)) rfl ?_
          refine own_icmpYes X14 hx (hb hby at_81) (tlt (Int32.lt_of_lt_of_le hc15 (by decide))).1 (pc' := 91) (by decide) (by decide) ?_
          refine own_iloadN X14 hx (hb hby at_91) (pc' := 92) rfl rfl ?_
          refine own_bipush X14 hx (hb hby at_92) (pc' := 94) rfl (v := (7 : Int32)) rfl ?_
          refine own_icmpYes X14 hx (hb hby at_94) (tlt (Int32.lt_of_lt_of_le hc15 (by decide))).1 (pc' := 104) (by decide) (by decide) ?_
          refine own_iloadN X14 hx (hb hby at_104) (pc' := 105) rfl rfl ?_
          refine own_retN X14 hx (t := .boolean) hret (by simp) hlk (hb hby at_105) (by decide) (by decide) ?_
          exact ⟨(congrArg some (congrArg Value.int (show _ = (own_f0 q1) from by rw [own_f0, if_neg hc9, if_neg hc11, if_neg hc13, if_pos hc15]; rfl))), N14⟩
        · refine own_icmpNo X14 hx (hb hby at_56) (pc' := 59) rfl (flt hc15).1 ?_
          refine own_iloadN X14 hx (hb hby at_59) (pc' := 60) rfl rfl ?_
          refine own_aloadN X14 hx (hb hby at_60) (pc' := 61) rfl rfl rfl ?_
          obtain ⟨cq16, kq16, q16a, q16b, q16c⟩ := isOf hZ rfl E_b6_14
          obtain ⟨_, _, ⟨T16, L16, k16, n16⟩, -, X16, ⟨Lc16, hQ16, l16, y16, z16⟩, st16⟩ := X14.virtualBack hx (y := (⟨"com/example/typewire/typewire/pva/StructCode$Allowance", "take", "()Z"⟩ : MethodName)) (z := (⟨"com/example/typewire/typewire/pva/StructCode$Allowance", "take", "()Z"⟩ : MethodName)) hown (mvT hZ (hw _ (List.mem_of_getElem? (i := 11) rfl))) (mvT hZ (hw _ (List.mem_of_getElem? (i := 12) rfl))) (notFace_of_selects (args := #[]) (mvT hZ (hw _ (List.mem_of_getElem? (i := 14) rfl)))) (mvT hZ (hw _ (List.mem_of_getElem? (i := 14) rfl))) (mvT hZ (hw _ (List.mem_of_getElem? (i := 13) rfl))) (by decide) (backOf (W := 1) (rm3 l Z a0 hw [] b6 (((((64 : Int32) - (1 : Int32)) - (1 : Int32)) - (1 : Int32)) - (1 : Int32)) T14.heap n0 sz14 E_b6_14 g_b6 F_b6_left_14 (by decide)) hZ (hw _ (List.mem_of_getElem? (i := 15) rfl)) (hw _ (List.mem_of_getElem? (i := 2) rfl)) (by decide) (by decide)) q16a q16c (g := (mkF m 61 #[.val (.int q1), .val (.ref b6), .val (.int (q1 &&& (7 : Int32))), .val (.int (1 : Int32))] [(.ref b6), (.int (1 : Int32))])) rfl (by rw [hml]; rfl) (Steps.refl _) (argsL := []) (rest := [(.int (1 : Int32))]) (lenOf pd_1 rfl) rfl (by show 2 * 0 + _ ≤ _; exact Nat.le_of_eq rfl) (hb hby at_61) (fun _ _ => ⟨rfl, rfl, (by decide : 1 + 0 ≤ _), (by decide : 1 + 0 ≤ _)⟩)
          dsimp only [Pt.U, Pt.locs, Pt.cells, Pt.slots] at X16 l16 y16 z16 st16 hQ16
          subst l16 y16 z16
          obtain ⟨rfl, N16q, K16', E_b6_16, F_b6_left_16⟩ := hQ16
          have sz16 : n0 ≤ T16.heap.size := Nat.le_trans sz14 K16'.1
          have N16 := Fr.app N14 N16q
          refine own_st ?_ (fun t k => st16.trans k)
          show own_Fin _ _ _ _ T16 (mkF m 64 #[.val (.int q1), .val (.ref b6), .val (.int (q1 &&& (7 : Int32))), .val (.int (1 : Int32))] [(.int (1 : Int32)), (.int (1 : Int32))])
          refine own_iand X16 hx (hb hby at_64) (pc' := 65) rfl ?_
          show own_Fin _ _ _ _ T16 (mkF m 65 #[.val (.int q1), .val (.ref b6), .val (.int (q1 &&& (7 : Int32))), .val (.int (1 : Int32))] [(.int (1 : Int32))])
          refine own_istoreN X16 hx (hb hby at_65) (pc' := 66) rfl (Ls' := #[.val (.int q1), .val (.ref b6), .val (.int (q1 &&& (7 : Int32))), .val (.int (1 : Int32))]) rfl ?_
          refine own_iloadN X16 hx (hb hby at_66) (pc' := 67) rfl rfl ?_
          refine own_iconst X16 hx (hb hby at_67) (pc' := 68) rfl (v := (5 : Int32)) rfl ?_
          by_cases hc17 : (q1 &&& (7 : Int32)) < (5 : Int32)
          · refine own_icmpYes X16 hx (hb hby at_68) (tlt hc17).1 (pc' := 78) (by decide) (by decide) ?_
            refine own_iloadN X16 hx (hb hby at_78) (pc' := 79) rfl rfl ?_
            refine own_bipush X16 hx (hb hby at_79) (pc' := 81) rfl (v := (6 : Int32)) rfl ?_
            refine own_icmpYes X16 hx (hb hby at_81) (tlt (Int32.lt_of_lt_of_le hc17 (by decide))).1 (pc' := 91) (by decide) (by decide) ?_
            refine own_iloadN X16 hx (hb hby at_91) (pc' := 92) rfl rfl ?_
            refine own_bipush X16 hx (hb hby at_92) (pc' := 94) rfl (v := (7 : Int32)) rfl ?_
            refine own_icmpYes X16 hx (hb hby at_94) (tlt (Int32.lt_of_lt_of_le hc17 (by decide))).1 (pc' := 104) (by decide) (by decide) ?_
            refine own_iloadN X16 hx (hb hby at_104) (pc' := 105) rfl rfl ?_
            refine own_retN X16 hx (t := .boolean) hret (by simp) hlk (hb hby at_105) (by decide) (by decide) ?_
            exact ⟨(congrArg some (congrArg Value.int (show _ = (own_f0 q1) from by rw [own_f0, if_neg hc9, if_neg hc11, if_neg hc13, if_neg hc15, if_pos hc17]; rfl))), N16⟩
          · refine own_icmpNo X16 hx (hb hby at_68) (pc' := 71) rfl (flt hc17).1 ?_
            refine own_iloadN X16 hx (hb hby at_71) (pc' := 72) rfl rfl ?_
            refine own_aloadN X16 hx (hb hby at_72) (pc' := 73) rfl rfl rfl ?_
            obtain ⟨cq18, kq18, q18a, q18b, q18c⟩ := isOf hZ rfl E_b6_16
            obtain ⟨_, _, ⟨T18, L18, k18, n18⟩, -, X18, ⟨Lc18, hQ18, l18, y18, z18⟩, st18⟩ := X16.virtualBack hx (y := (⟨"com/example/typewire/typewire/pva/StructCode$Allowance", "take", "()Z"⟩ : MethodName)) (z := (⟨"com/example/typewire/typewire/pva/StructCode$Allowance", "take", "()Z"⟩ : MethodName)) hown (mvT hZ (hw _ (List.mem_of_getElem? (i := 11) rfl))) (mvT hZ (hw _ (List.mem_of_getElem? (i := 12) rfl))) (notFace_of_selects (args := #[]) (mvT hZ (hw _ (List.mem_of_getElem? (i := 14) rfl)))) (mvT hZ (hw _ (List.mem_of_getElem? (i := 14) rfl))) (mvT hZ (hw _ (List.mem_of_getElem? (i := 13) rfl))) (by decide) (backOf (W := 1) (rm3 l Z a0 hw [] b6 ((((((64 : Int32) - (1 : Int32)) - (1 : Int32)) - (1 : Int32)) - (1 : Int32)) - (1 : Int32)) T16.heap n0 sz16 E_b6_16 g_b6 F_b6_left_16 (by decide)) hZ (hw _ (List.mem_of_getElem? (i := 15) rfl)) (hw _ (List.mem_of_getElem? (i := 2) rfl)) (by decide) (by decide)) q18a q18c (g := (mkF m 73 #[.val (.int q1), .val (.ref b6), .val (.int (q1 &&& (7 : Int32))), .val (.int (1 : Int32))] [(.ref b6), (.int (1 : Int32))])) rfl (by rw [hml]; rfl) (Steps.refl _) (argsL := []) (rest := [(.int (1 : Int32))]) (lenOf pd_1 rfl) rfl (by show 2 * 0 + _ ≤ _; exact Nat.le_of_eq rfl) (hb hby at_73) (fun _ _ => ⟨rfl, rfl, (by decide : 1 + 0 ≤ _), (by decide : 1 + 0 ≤ _)⟩)
            dsimp only [Pt.U, Pt.locs, Pt.cells, Pt.slots] at X18 l18 y18 z18 st18 hQ18
            subst l18 y18 z18
            obtain ⟨rfl, N18q, K18', E_b6_18, F_b6_left_18⟩ := hQ18
            have sz18 : n0 ≤ T18.heap.size := Nat.le_trans sz16 K18'.1
            have N18 := Fr.app N16 N18q
            refine own_st ?_ (fun t k => st18.trans k)
            show own_Fin _ _ _ _ T18 (mkF m 76 #[.val (.int q1), .val (.ref b6), .val (.int (q1 &&& (7 : Int32))), .val (.int (1 : Int32))] [(.int (1 : Int32)), (.int (1 : Int32))])
            refine own_iand X18 hx (hb hby at_76) (pc' := 77) rfl ?_
            show own_Fin _ _ _ _ T18 (mkF m 77 #[.val (.int q1), .val (.ref b6), .val (.int (q1 &&& (7 : Int32))), .val (.int (1 : Int32))] [(.int (1 : Int32))])
            refine own_istoreN X18 hx (hb hby at_77) (pc' := 78) rfl (Ls' := #[.val (.int q1), .val (.ref b6), .val (.int (q1 &&& (7 : Int32))), .val (.int (1 : Int32))]) rfl ?_
            refine own_iloadN X18 hx (hb hby at_78) (pc' := 79) rfl rfl ?_
            refine own_bipush X18 hx (hb hby at_79) (pc' := 81) rfl (v := (6 : Int32)) rfl ?_
            by_cases hc19 : (q1 &&& (7 : Int32)) < (6 : Int32)
            · refine own_icmpYes X18 hx (hb hby at_81) (tlt hc19).1 (pc' := 91) (by decide) (by decide) ?_
              refine own_iloadN X18 hx (hb hby at_91) (pc' := 92) rfl rfl ?_
              refine own_bipush X18 hx (hb hby at_92) (pc' := 94) rfl (v := (7 : Int32)) rfl ?_
              refine own_icmpYes X18 hx (hb hby at_94) (tlt (Int32.lt_of_lt_of_le hc19 (by decide))).1 (pc' := 104) (by decide) (by decide) ?_
              refine own_iloadN X18 hx (hb hby at_104) (pc' := 105) rfl rfl ?_
              refine own_retN X18 hx (t := .boolean) hret (by simp) hlk (hb hby at_105) (by decide) (by decide) ?_
              exact ⟨(congrArg some (congrArg Value.int (show _ = (own_f0 q1) from by rw [own_f0, if_neg hc9, if_neg hc11, if_neg hc13, if_neg hc15, if_neg hc17, if_pos hc19]; rfl))), N18⟩
            · refine own_icmpNo X18 hx (hb hby at_81) (pc' := 84) rfl (flt hc19).1 ?_
              refine own_iloadN X18 hx (hb hby at_84) (pc' := 85) rfl rfl ?_
              refine own_aloadN X18 hx (hb hby at_85) (pc' := 86) rfl rfl rfl ?_
              obtain ⟨cq20, kq20, q20a, q20b, q20c⟩ := isOf hZ rfl E_b6_18
              obtain ⟨_, _, ⟨T20, L20, k20, n20⟩, -, X20, ⟨Lc20, hQ20, l20, y20, z20⟩, st20⟩ := X18.virtualBack hx (y := (⟨"com/example/typewire/typewire/pva/StructCode$Allowance", "take", "()Z"⟩ : MethodName)) (z := (⟨"com/example/typewire/typewire/pva/StructCode$Allowance", "take", "()Z"⟩ : MethodName)) hown (mvT hZ (hw _ (List.mem_of_getElem? (i := 11) rfl))) (mvT hZ (hw _ (List.mem_of_getElem? (i := 12) rfl))) (notFace_of_selects (args := #[]) (mvT hZ (hw _ (List.mem_of_getElem? (i := 14) rfl)))) (mvT hZ (hw _ (List.mem_of_getElem? (i := 14) rfl))) (mvT hZ (hw _ (List.mem_of_getElem? (i := 13) rfl))) (by decide) (backOf (W := 1) (rm3 l Z a0 hw [] b6 (((((((64 : Int32) - (1 : Int32)) - (1 : Int32)) - (1 : Int32)) - (1 : Int32)) - (1 : Int32)) - (1 : Int32)) T18.heap n0 sz18 E_b6_18 g_b6 F_b6_left_18 (by decide)) hZ (hw _ (List.mem_of_getElem? (i := 15) rfl)) (hw _ (List.mem_of_getElem? (i := 2) rfl)) (by decide) (by decide)) q20a q20c (g := (mkF m 86 #[.val (.int q1), .val (.ref b6), .val (.int (q1 &&& (7 : Int32))), .val (.int (1 : Int32))] [(.ref b6), (.int (1 : Int32))])) rfl (by rw [hml]; rfl) (Steps.refl _) (argsL := []) (rest := [(.int (1 : Int32))]) (lenOf pd_1 rfl) rfl (by show 2 * 0 + _ ≤ _; exact Nat.le_of_eq rfl) (hb hby at_86) (fun _ _ => ⟨rfl, rfl, (by decide : 1 + 0 ≤ _), (by decide : 1 + 0 ≤ _)⟩)
              dsimp only [Pt.U, Pt.locs, Pt.cells, Pt.slots] at X20 l20 y20 z20 st20 hQ20
              subst l20 y20 z20
              obtain ⟨rfl, N20q, K20', E_b6_20, F_b6_left_20⟩ := hQ20
              have sz20 : n0 ≤ T20.heap.size := Nat.le_trans sz18 K20'.1
              have N20 := Fr.app N18 N20q
              refine own_st ?_ (fun t k => st20.trans k)
              show own_Fin _ _ _ _ T20 (mkF m 89 #[.val (.int q1), .val (.ref b6), .val (.int (q1 &&& (7 : Int32))), .val (.int (1 : Int32))] [(.int (1 : Int32)), (.int (1 : Int32))])
              refine own_iand X20 hx (hb hby at_89) (pc' := 90) rfl ?_
              show own_Fin _ _ _ _ T20 (mkF m 90 #[.val (.int q1), .val (.ref b6), .val (.int (q1 &&& (7 : Int32))), .val (.int (1 : Int32))] [(.int (1 : Int32))])
              refine own_istoreN X20 hx (hb hby at_90) (pc' := 91) rfl (Ls' := #[.val (.int q1), .val (.ref b6), .val (.int (q1 &&& (7 : Int32))), .val (.int (1 : Int32))]) rfl ?_
              refine own_iloadN X20 hx (hb hby at_91) (pc' := 92) rfl rfl ?_
              refine own_bipush X20 hx (hb hby at_92) (pc' := 94) rfl (v := (7 : Int32)) rfl ?_
              by_cases hc21 : (q1 &&& (7 : Int32)) < (7 : Int32)
              · refine own_icmpYes X20 hx (hb hby at_94) (tlt hc21).1 (pc' := 104) (by decide) (by decide) ?_
                refine own_iloadN X20 hx (hb hby at_104) (pc' := 105) rfl rfl ?_
                refine own_retN X20 hx (t := .boolean) hret (by simp) hlk (hb hby at_105) (by decide) (by decide) ?_
                exact ⟨(congrArg some (congrArg Value.int (show _ = (own_f0 q1) from by rw [own_f0, if_neg hc9, if_neg hc11, if_neg hc13, if_neg hc15, if_neg hc17, if_neg hc19, if_pos hc21]; rfl))), N20⟩
              · refine own_icmpNo X20 hx (hb hby at_94) (pc' := 97) rfl (flt hc21).1 ?_
                refine own_iloadN X20 hx (hb hby at_97) (pc' := 98) rfl rfl ?_
                refine own_aloadN X20 hx (hb hby at_98) (pc' := 99) rfl rfl rfl ?_
                obtain ⟨cq22, kq22, q22a, q22b, q22c⟩ := isOf hZ rfl E_b6_20
                obtain ⟨_, _, ⟨T22, L22, k22, n22⟩, -, X22, ⟨Lc22, hQ22, l22, y22, z22⟩, st22⟩ := X20.virtualBack hx (y := (⟨"com/example/typewire/typewire/pva/StructCode$Allowance", "take", "()Z"⟩ : MethodName)) (z := (⟨"com/example/typewire/typewire/pva/StructCode$Allowance", "take", "()Z"⟩ : MethodName)) hown (mvT hZ (hw _ (List.mem_of_getElem? (i := 11) rfl))) (mvT hZ (hw _ (List.mem_of_getElem? (i := 12) rfl))) (notFace_of_selects (args := #[]) (mvT hZ (hw _ (List.mem_of_getElem? (i := 14) rfl)))) (mvT hZ (hw _ (List.mem_of_getElem? (i := 14) rfl))) (mvT hZ (hw _ (List.mem_of_getElem? (i := 13) rfl))) (by decide) (backOf (W := 1) (rm3 l Z a0 hw [] b6 ((((((((64 : Int32) - (1 : Int32)) - (1 : Int32)) - (1 : Int32)) - (1 : Int32)) - (1 : Int32)) - (1 : Int32)) - (1 : Int32)) T20.heap n0 sz20 E_b6_20 g_b6 F_b6_left_20 (by decide)) hZ (hw _ (List.mem_of_getElem? (i := 15) rfl)) (hw _ (List.mem_of_getElem? (i := 2) rfl)) (by decide) (by decide)) q22a q22c (g := (mkF m 99 #[.val (.int q1), .val (.ref b6), .val (.int (q1 &&& (7 : Int32))), .val (.int (1 : Int32))] [(.ref b6), (.int (1 : Int32))])) rfl (by rw [hml]; rfl) (Steps.refl _) (argsL := []) (rest := [(.int (1 : Int32))]) (lenOf pd_1 rfl) rfl (by show 2 * 0 + _ ≤ _; exact Nat.le_of_eq rfl) (hb hby at_99) (fun _ _ => ⟨rfl, rfl, (by decide : 1 + 0 ≤ _), (by decide : 1 + 0 ≤ _)⟩)
                dsimp only [Pt.U, Pt.locs, Pt.cells, Pt.slots] at X22 l22 y22 z22 st22 hQ22
                subst l22 y22 z22
                obtain ⟨rfl, N22q, K22', E_b6_22, F_b6_left_22⟩ := hQ22
                have sz22 : n0 ≤ T22.heap.size := Nat.le_trans sz20 K22'.1
                have N22 := Fr.app N20 N22q
                refine own_st ?_ (fun t k => st22.trans k)
                show own_Fin _ _ _ _ T22 (mkF m 102 #[.val (.int q1), .val (.ref b6), .val (.int (q1 &&& (7 : Int32))), .val (.int (1 : Int32))] [(.int (1 : Int32)), (.int (1 : Int32))])
                refine own_iand X22 hx (hb hby at_102) (pc' := 103) rfl ?_
                show own_Fin _ _ _ _ T22 (mkF m 103 #[.val (.int q1), .val (.ref b6), .val (.int (q1 &&& (7 : Int32))), .val (.int (1 : Int32))] [(.int (1 : Int32))])
                refine own_istoreN X22 hx (hb hby at_103) (pc' := 104) rfl (Ls' := #[.val (.int q1), .val (.ref b6), .val (.int (q1 &&& (7 : Int32))), .val (.int (1 : Int32))]) rfl ?_
                refine own_iloadN X22 hx (hb hby at_104) (pc' := 105) rfl rfl ?_
                refine own_retN X22 hx (t := .boolean) hret (by simp) hlk (hb hby at_105) (by decide) (by decide) ?_
                exact ⟨(congrArg some (congrArg Value.int (show _ = (own_f0 q1) from by rw [own_f0, if_neg hc9, if_neg hc11, if_neg hc13, if_neg hc15, if_neg hc17, if_neg hc19, if_neg hc21]; rfl))), N22⟩
theorem ef_0 (m : MethodId) (q1 : Int32) : entryFrame m #[(.int q1)] maxLocals = mkF m 0 #[.val (.int q1), .unset, .unset, .unset] [] := by first | (simp [entryFrame, mkF, argsToLocals, Value.category, maxLocals]; done) | rfl
set_option maxRecDepth 65536 in
set_option maxHeartbeats 40000000 in
theorem rm0 (l : Launch) (Z : State) (a0 : Array Value) (hw : ∀ d ∈ tables_1, d.before a0 Z = true) (ws : List Jvm.Cond) (q1 : Int32) (h0 : Heap) (n0 : Nat) (Z0 : n0 ≤ h0.size)  (own_law : ∀ (q1 : Int32), (own_f0 q1) = 1) :
    MetFree l x (head1 (Jvm.Cond.code x code maxLocals ret :: ws) room_1) (fun a U => a = #[(.int q1)] ∧ Z.Warmed39 U.vm ∧ U.heap = h0) (fun _ _ _ _ _ => True) (fun _ U o U' => ∃ v L, o = .returned v ∧ (own_L n0 (.int 1)) v U'.heap L ∧ FrameEnd U o U' L 1 1) := by
  refine MetFree.of_bodySF (plainFor_of_name pn_0) hisR ?_
  intro p e s m args below meth c s₁ Bd hml0 hP hK
  obtain ⟨rfl, hZ, hh⟩ := hP
  have hown : s.vm.findClass "com/example/typewire/typewire/pva/AllowanceTakePinLaw" = some m.cls := findClass_of_methodNamed Bd.named
  have hnm := (name_of_methodNamed Bd.named Bd.method).1
  have X0 : Stand p l e room_1 s m #[(.int q1)] below meth c s₁ [] 0 0 := Stand.of_body Bd
  have e0 : s₁.heap = h0 := by rw [← hh, Bd.state]; rfl
  have H := sg0_0 l hw Bd.exec hZ Bd.bytes hml0 hown hnm Bd.returns Bd.notSynchronized q1 Z0 X0 (Fr.nil n0) e0
  rw [own_law] at H
  obtain ⟨t, h1, h2, o, h3, h4⟩ := H
  exact ⟨t, o, castTop (ef_0 m q1) h1, h2, h3, h4⟩
theorem own_law (q1 : Int32) : own_f0 q1 = 1 := by
  unfold own_f0
  repeat' split
  all_goals rfl
set_option maxRecDepth 65536 in
set_option maxHeartbeats 40000000 in
theorem comes_1 {Post : Tables → Env → Array Value → State → Outcome → State → Prop} (hpost : ∀ tb e args s v u, (limb_1_1.after args s (.returned v) u = true ∧ limb_1_2.after args s (.returned v) u = true ∧ True) → FrameEnd s (.returned v) u (Jvm.fieldLocs frame_1_writes args s ++ Jvm.arrayLocs frame_1_arrays args s ++ Jvm.staticLocs frame_1_statics s) 16 128 → Post tb e args s (.returned v) u) :
    ArmFor flags0 classFile x code maxLocals ret World_1 tables_1 room_1 Calls_1 rest_1 Pre_1 Post := by
  intro l hfl _ _ p e ha hc hk s m args below hf hA hF happ hP
  obtain ⟨hcalls, hrest, hpre⟩ := hP
  obtain ⟨-, -, -, hnamed, -, -, -, hat⟩ := (Spec.applies_iff hf).mp happ
  obtain ⟨hg, hn⟩ := and_e (Cond.before_iff.mp (show (Jvm.Cond.and given_1 narrow_1).before args s = true from hpre))
  obtain ⟨gc, g0⟩ := and_e hg
  have gv0 := g0
  obtain ⟨w0, rfl⟩ : ∃ w0 : Value, args = #[w0] := by
    have hs : args.size = 1 := by simpa [Cond.value, given_1] using gc
    obtain ⟨L⟩ := args
    match L, hs with
    | [w0], _ => exact ⟨w0, rfl⟩
  have hw := fun d (hd : d ∈ tables_1) => atoms_spec (ws := Jvm.Cond.code x code maxLocals ret :: tables_1) hat d (List.mem_cons_of_mem _ hd)
  obtain ⟨i0, ei0⟩ := is_v gv0
  obtain rfl : w0 = (.int i0) := Option.some.inj ei0
  obtain ⟨n, o, h1, h2, h3, _, L, rfl, ⟨rfl, N⟩, hq⟩ := rm0 l s _ hw tables_1 i0 s.heap s.heap.size (Nat.le_refl _) own_law p e ha hc hk s m _ below hf ((Spec.applies_iff_loose hf).mp happ).1 ⟨rfl, State.Warmed39.refl s, rfl⟩ trivial
  refine ⟨n, _, h1, h2, h3, hpost _ _ _ _ _ _ ⟨Cond.after_iff.mpr rfl, Cond.after_iff.mpr (eq_i res_at (Term.int_eval (1)) rfl), trivial⟩ ⟨hq.1, hq.2.1, (hq.2.2.sift fun y hy => Or.inr (N y hy)).mono (by decide) (by decide)⟩⟩
theorem main_1_1 : Claimed_1_1 := comes_1 fun _ _ _ _ _ _ h hF => ⟨h.1, hF⟩
theorem main_1_2 : Claimed_1_2 := comes_1 fun _ _ _ _ _ _ h hF => ⟨h.2.1, hF⟩
end Jvm.Pilot.@@N@@
namespace Jvm.Pilot.@@N@@
open Jvm Jvm.ClassFile Sem Op Lib Jvm.Free Jvm.Stand Jvm.Pilot.@@N@@.Jvm.D
/-! MADE BY PROGRAM (witnessworld.py) out of the Statement's table words and the real class files: 9 classes; the members and pool entries that the words name. The judged class is class 1, her method 1. -/
namespace start1
open Jvm.ClassFile
def u (s : String) : CpInfo := .utf8 (stringToUtf16 s)
/-- a pool by its gaps: so many unusable entries, then the entry; so many at the end -/
def gap : Nat → List CpInfo → List CpInfo
  | 0, r => r
  | n + 1, r => .unusable :: gap n r
def poolList (es : List (Nat × CpInfo)) (last : Nat) : List CpInfo := es.foldr (fun e r => gap e.1 (e.2 :: r)) (gap last [])
def pool (es : List (Nat × CpInfo)) (last : Nat) : Array CpInfo := ⟨poolList es last⟩
def fileOf (pool : Array CpInfo) (this : Nat) (attrs : Array Attribute := #[]) (ms : Array MethodInfo := #[]) (fl : Nat := 33) (sup : Nat := 0) (ifs : Array Nat := #[]) (fds : Array FieldInfo := #[]) : ClassFile where
  minorVersion := 0
  majorVersion := 65
  constantPool := pool
  accessFlags := fl
  thisClass := this
  superClass := sup
  interfaces := ifs
  fields := fds
  methods := ms
  attributes := attrs
def plain (name : String) (sup : Option ClassId) : Class where
  name := name
  kind := .ordinary
  loader := none
  accessFlags := 33
  super := sup
  interfaces := #[]
  cf := none
  fields := #[]
  methods := #[]
  instanceTypes := #[]
  staticTypes := #[]
  resolved := #[]
  callSites := []
  init := .initialized
  statics := none
  mirror := none

def pool0 : Array CpInfo := pool [(5, u "<init>"), (0, u "()V"), (1, .class_ 10), (1, u "java/lang/Object")] 113

def k0c0 : Code := { maxStack := 0, maxLocals := 1, code := object_method_1_code, exceptionTable := #[], attributes := #[] }
def k0m0 : Method := { name := "<init>", desc := "()V", sig := { parameters := [], returnType := none }, accessFlags := 1, code := some k0c0 }
/-- java/lang/Object -/
def k0 : Class := { plain "java/lang/Object" none with
  accessFlags := 33
  interfaces := #[]
  cf := some (fileOf pool0 8 #[] #[{ accessFlags := 1, nameIndex := 5, descriptorIndex := 6, attributes := #[] }] 33 0 #[] #[])
  fields := #[]
  methods := #[k0m0]
  instanceTypes := #[]
  staticTypes := #[]
  resolved := Array.replicate 124 none
  statics := none }

def pool1 : Array CpInfo := pool [(2, .class_ 4), (0, .nameAndType 5 6), (0, u "java/lang/Object"), (0, u "<init>"), (0, u "()V"), (0, .class_ 8), (0, u "com/example/typewire/typewire/pva/StructCode$Allowance"), (0, .methodref 7 3), (0, .methodref 7 11), (0, .nameAndType 12 13), (0, u "take"), (0, u "()Z"), (0, .class_ 15), (0, u "com/example/typewire/typewire/pva/AllowanceTakePinLaw"), (2, u "law"), (0, u "(I)Z")] 7

def k1m0 : Method := { name := "<init>", desc := "()V", sig := { parameters := [], returnType := none }, accessFlags := 2, code := none }
def k1c1 : Code := { maxStack := 2, maxLocals := 4, code := code, exceptionTable := #[], attributes := #[] }
def k1m1 : Method := { name := "law", desc := "(I)Z", sig := { parameters := [.int], returnType := some .boolean }, accessFlags := 9, code := some k1c1 }
/-- com/example/typewire/typewire/pva/AllowanceTakePinLaw -/
def k1 : Class := { plain "com/example/typewire/typewire/pva/AllowanceTakePinLaw" (some 0) with
  accessFlags := 49
  interfaces := #[]
  cf := some (fileOf pool1 14 #[] #[{ accessFlags := 2, nameIndex := 5, descriptorIndex := 6, attributes := #[] }, { accessFlags := 9, nameIndex := 18, descriptorIndex := 19, attributes := #[] }] 49 2 #[] #[])
  fields := #[]
  methods := #[k1m0, k1m1]
  instanceTypes := #[]
  staticTypes := #[]
  resolved := Array.replicate 27 none
  statics := none }

def pool2 : Array CpInfo := pool [(1, .class_ 2), (0, u "com/example/typewire/typewire/pva/StructCode"), (0, .methodref 4 5), (0, .class_ 6), (0, .nameAndType 7 8), (0, u "java/lang/Object"), (0, u "<init>"), (0, u "()V"), (0, .fieldref 10 11), (0, .class_ 12), (0, .nameAndType 13 14), (0, u "com/example/typewire/typewire/pva/StructCode$Allowance"), (0, u "left"), (0, u "I"), (2, u "take"), (0, u "()Z")] 6

def k2c0 : Code := { maxStack := 2, maxLocals := 1, code := prog_69_method_1_code, exceptionTable := #[], attributes := #[] }
def k2m0 : Method := { name := "<init>", desc := "()V", sig := { parameters := [], returnType := none }, accessFlags := 0, code := some k2c0 }
def k2c1 : Code := { maxStack := 3, maxLocals := 2, code := prog_69_method_2_code, exceptionTable := #[], attributes := #[] }
def k2m1 : Method := { name := "take", desc := "()Z", sig := { parameters := [], returnType := some .boolean }, accessFlags := 0, code := some k2c1 }
/-- com/example/typewire/typewire/pva/StructCode$Allowance -/
def k2 : Class := { plain "com/example/typewire/typewire/pva/StructCode$Allowance" (some 0) with
  accessFlags := 48
  interfaces := #[]
  cf := some (fileOf pool2 10 #[.nestHost 1] #[{ accessFlags := 0, nameIndex := 7, descriptorIndex := 8, attributes := #[] }, { accessFlags := 0, nameIndex := 17, descriptorIndex := 18, attributes := #[] }] 48 4 #[] #[{ accessFlags := 2, nameIndex := 13, descriptorIndex := 14, attributes := #[] }])
  fields := #[{ name := "left", type := .int, accessFlags := 2, slot := 0, constantValue := 0 }]
  methods := #[k2m0, k2m1]
  instanceTypes := #[.int]
  staticTypes := #[]
  resolved := Array.replicate 25 none
  statics := none }

def pool3 : Array CpInfo := pool [(1, u "java/lang/Cloneable"), (0, .class_ 1), (0, u "java/lang/Object"), (0, .class_ 3)] 3

/-- java/lang/Cloneable -/
def k3 : Class := { plain "java/lang/Cloneable" (some 0) with
  accessFlags := 1537
  interfaces := #[]
  cf := some (fileOf pool3 2 #[] #[] 1537 4 #[] #[])
  fields := #[]
  methods := #[]
  instanceTypes := #[]
  staticTypes := #[]
  resolved := Array.replicate 8 none
  statics := none }

def pool4 : Array CpInfo := pool [(1, u "java/io/Serializable"), (0, .class_ 1), (0, u "java/lang/Object"), (0, .class_ 3)] 3

/-- java/io/Serializable -/
def k4 : Class := { plain "java/io/Serializable" (some 0) with
  accessFlags := 1537
  interfaces := #[]
  cf := some (fileOf pool4 2 #[] #[] 1537 4 #[] #[])
  fields := #[]
  methods := #[]
  instanceTypes := #[]
  staticTypes := #[]
  resolved := Array.replicate 8 none
  statics := none }

/-- the primitive byte -/
def k5 : Class := { plain "byte" none with kind := .primitive 'B', accessFlags := 0x411 }
/-- [B -/
def k6 : Class := { plain "[B" (some 0) with kind := .array 5 .byte, interfaces := #[3, 4], accessFlags := 1041 }

/-- the primitive int -/
def k7 : Class := { plain "int" none with kind := .primitive 'I', accessFlags := 0x411 }
/-- [I -/
def k8 : Class := { plain "[I" (some 0) with kind := .array 7 .int, interfaces := #[3, 4], accessFlags := 1041 }

def heap : Heap := #[]
def classes : Array Class := #[k0, k1, k2, k3, k4, k5, k6, k7, k8]
def interned : List (Array UInt16 × Addr) := []
def slotsUsed : Nat := 0
def theMethod : MethodId := ⟨1, 1⟩
def args0 : Array Value := #[.int 5]
def aboutOver (below : List Frame) : State where
  vm := { classes := classes, interned := interned.toArray }
  heap := heap
  slotsUsed := slotsUsed
  threads := #[{ frames := .invoking theMethod args0 :: below }]
def below0 : List Frame := [.native { method := ⟨0, 0⟩, args := #[] }]
def about1 : State := aboutOver below0
def p0 : Program := .bare "" "" ""
def e0 : Env := launch0.env 0 0 0
theorem w_frames : about1.frames = Frame.invoking theMethod args0 :: below0 := rfl
set_option maxRecDepth 65536 in
theorem w_args : argsFit about1.vm theMethod args0 = true := by decide +kernel
set_option maxRecDepth 65536 in
theorem w_heap : heapFits about1 = true := by decide +kernel
set_option maxRecDepth 65536 in
theorem w_runnable : about1.curStatus? = some .runnable := by decide +kernel
set_option maxRecDepth 65536 in
theorem w_alone : about1.alone = true := by decide +kernel
set_option maxRecDepth 65536 in
theorem w_named : about1.methodNamed? x = some theMethod := by decide +kernel
set_option maxRecDepth 65536 in
theorem w_hears : about1.hears theMethod below0 = true := by decide +kernel
set_option maxRecDepth 65536 in
theorem w_ripe : about1.ripe theMethod args0 below0 = true := by decide +kernel
theorem w_running : about1.status = .running := rfl
set_option maxRecDepth 65536 in
theorem w_room : about1.hasRoom e0.platform room_1 = true :=
  launch0.hasRoom_least _ room_1 (by decide +kernel) (by decide +kernel) (by decide +kernel) (by decide +kernel) (by decide +kernel) (by decide +kernel)
theorem allAtoms_all (ts : List Jvm.Cond) (a : Array Jvm.Value) (st : Jvm.State) : (allAtoms ts).before a st = ts.all (fun c => c.before a st) := by
  induction ts with
  | nil => rfl
  | cons c t ih =>
    show (Jvm.Cond.and c (allAtoms t)).before a st = _
    rw [Jvm.Cond.before_and, ih, List.all_cons]
def words1 : List Jvm.Cond := Jvm.Cond.code x code maxLocals ret :: tables_1
/-- a 'code' word, met by the world's own term for the bytes: nothing is compared byte by byte -/
theorem code_word {y : MethodName} {bytes : ByteArray} {mx : Nat} {rt : Option FieldType} {a : Array Value} {s : State} {m : MethodId} {meth : Method} {c : Code} (h1 : s.methodNamed? y = some m) (h2 : s.vm.method? m = some meth) (h3 : meth.code = some c) (h4 : c.code = bytes)
    (h5 : (c.maxLocals == mx && c.exceptionTable.isEmpty && decide (c.maxStack ≤ mostOperands) && decide (meth.sig.returnType = rt) && !meth.locks && decide (parseMethodDescriptor y.desc = some meth.sig)) = true) : (Jvm.Cond.code y bytes mx rt).before a s = true := by
  simp only [Bool.and_eq_true, beq_iff_eq, Bool.not_eq_true', decide_eq_true_eq] at h5
  obtain ⟨⟨⟨⟨⟨g1, g2⟩, g3⟩, g4⟩, g5⟩, g6⟩ := h5
  simp [Cond.before, Cond.holds, Cond.value, h1, h2, h3, h4, g1, g2, g3, g4, g5, g6]
def isCode : Jvm.Cond → Bool
  | .code _ _ _ _ => true
  | _ => false
theorem all_split {L : List Jvm.Cond} {P : Jvm.Cond → Bool} (h1 : L.all (fun c => isCode c || P c) = true) (h2 : ∀ c ∈ L.filter isCode, P c = true) : L.all P = true := by
  refine List.all_eq_true.mpr fun c hc => ?_
  have h := List.all_eq_true.mp h1 c hc
  rcases Bool.eq_false_or_eq_true (isCode c) with hi | hi
  · exact h2 c (List.mem_filter.mpr ⟨hc, hi⟩)
  · simpa [hi] using h
set_option maxRecDepth 65536 in
theorem w_c0 : (Jvm.Cond.code x code maxLocals ret).before args0 about1 = true := code_word (m := ⟨1, 1⟩) (meth := k1m1) (c := k1c1) (by decide +kernel) rfl rfl rfl (by decide +kernel)
set_option maxRecDepth 65536 in
theorem w_c1 : (Jvm.Cond.code ({ cls := "com/example/typewire/typewire/pva/StructCode$Allowance", name := "<init>", desc := "()V" } : Jvm.MethodName) prog_69_method_1_code (1 : Nat) (Option.none : Option Jvm.ClassFile.FieldType)).before args0 about1 = true := code_word (m := ⟨2, 0⟩) (meth := k2m0) (c := k2c0) (by decide +kernel) rfl rfl rfl (by decide +kernel)
set_option maxRecDepth 65536 in
theorem w_c2 : (Jvm.Cond.code ({ cls := "java/lang/Object", name := "<init>", desc := "()V" } : Jvm.MethodName) object_method_1_code (1 : Nat) (Option.none : Option Jvm.ClassFile.FieldType)).before args0 about1 = true := code_word (m := ⟨0, 0⟩) (meth := k0m0) (c := k0c0) (by decide +kernel) rfl rfl rfl (by decide +kernel)
set_option maxRecDepth 65536 in
theorem w_c3 : (Jvm.Cond.code ({ cls := "com/example/typewire/typewire/pva/StructCode$Allowance", name := "take", desc := "()Z" } : Jvm.MethodName) prog_69_method_2_code (2 : Nat) (Option.some Jvm.ClassFile.FieldType.boolean)).before args0 about1 = true := code_word (m := ⟨2, 1⟩) (meth := k2m1) (c := k2c1) (by decide +kernel) rfl rfl rfl (by decide +kernel)
def codes1 : List Jvm.Cond := [Jvm.Cond.code x code maxLocals ret, Jvm.Cond.code ({ cls := "com/example/typewire/typewire/pva/StructCode$Allowance", name := "<init>", desc := "()V" } : Jvm.MethodName) prog_69_method_1_code (1 : Nat) (Option.none : Option Jvm.ClassFile.FieldType), Jvm.Cond.code ({ cls := "java/lang/Object", name := "<init>", desc := "()V" } : Jvm.MethodName) object_method_1_code (1 : Nat) (Option.none : Option Jvm.ClassFile.FieldType), Jvm.Cond.code ({ cls := "com/example/typewire/typewire/pva/StructCode$Allowance", name := "take", desc := "()Z" } : Jvm.MethodName) prog_69_method_2_code (2 : Nat) (Option.some Jvm.ClassFile.FieldType.boolean)]
set_option maxRecDepth 65536 in
theorem codes_eq : words1.filter isCode = codes1 := rfl
theorem w_codes : ∀ c ∈ words1.filter isCode, c.before args0 about1 = true := by
  rw [codes_eq]
  intro c hc
  simp only [codes1, List.mem_cons, List.not_mem_nil, or_false] at hc
  rcases hc with rfl | rfl | rfl | rfl
  · exact w_c0
  · exact w_c1
  · exact w_c2
  · exact w_c3
set_option maxRecDepth 65536 in
theorem w_t1 : words1.all (fun c => isCode c || c.before args0 about1) = true := by decide +kernel
theorem w_tables : (allAtoms (Jvm.Cond.code x code maxLocals ret :: tables_1)).before args0 about1 = true := by
  rw [allAtoms_all]
  show words1.all (fun c => c.before args0 about1) = true
  refine all_split ?_ w_codes
  rw [w_t1]
set_option maxRecDepth 65536 in
theorem w_case : (Jvm.Cond.and given_1 narrow_1).before args0 about1 = true := by decide +kernel
theorem w_applies : (headSpec (Jvm.Cond.code x code maxLocals ret :: tables_1) room_1).applies x e0.platform about1 = true :=
  (Spec.applies_iff w_frames).mpr ⟨w_running, w_runnable, w_alone, w_named, w_hears, w_ripe, w_room, w_tables⟩
theorem atStart : AtStart classFile x code maxLocals ret World_1 tables_1 room_1 Calls_1 rest_1 Pre_1 launch0 p0 e0 about1 theMethod args0 below0 :=
  ⟨lists_1, trivial, launch0.admits_env _ _ _, launch0.least_env, fairChoices_fair.cas, fairChoices_fair.clock, w_frames, w_args, w_heap, w_applies, trivial, trivial, w_case⟩
end start1
theorem witness_1 : WitnessClaimed_1 := ⟨start1.p0, start1.e0, start1.about1, start1.theMethod, start1.args0, start1.below0, start1.atStart⟩
end Jvm.Pilot.@@N@@
