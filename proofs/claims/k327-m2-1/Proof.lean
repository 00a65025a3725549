import JvmDerived
import JvmDerived.Pilot.@@N@@Statement
import JvmDerived.Pilot.@@N@@Code
set_option linter.unusedVariables false
set_option linter.unusedSimpArgs false
@@BLOCK:NumsL.lean.txt@@
namespace Jvm.RoadKit
open Sem ClassFile Op Lib Jvm.Stand Jvm.Free Jvm.LawKit
section New
variable {p : Program} {l : Launch} {e : Env} {R : Room} {s : State} {m : MethodId} {args : Array Value} {below : List Frame} {meth : Method} {c : Code} {T : State} {locs : List Loc} {cells slots : Nat}
theorem retI (X : Stand p l e R s m args below meth c T locs cells slots) (hx : p.tables.exec = Jvm.exec) {pc : Nat} {Ls : Array Slot} {z : Int32} {rest : List Value} (hret : meth.sig.returnType = some .int) (hd : decode c.code pc = .ok (.ireturn, 1)) {fs : List Frame}
    (hl : ∀ (f : JFrame) (acts : List Action), f.method = m → f.locked = none → f.entered = [] → (doReturn e (T.setTop f) acts (some (.int z))).1 = T.setFrames fs) : Steps p.tables e below (T.setTop (mkF m pc Ls (.int z :: rest))) (T.setFrames fs) := by
  have hm' : T.vm.method? m = some meth := X.method'
  have hn : narrow .int (.int z) = .int z := rfl
  show Steps p.tables e below (T.setTop { method := m, pc := pc, locals := Ls, stack := _ :: rest, locked := none }) _
  jvm_step X.here [X.here.top, hx, hd, hm', hret, hn]
  first | (intro acts; rw [hl _ acts rfl rfl rfl]) | rw [hl _ _ rfl rfl rfl]
  exact Steps.refl _
end New
end Jvm.RoadKit
namespace Jvm.Pilot.@@N@@
open Jvm Jvm.ClassFile Sem Op Lib Jvm.Free Jvm.Stand Jvm.LawKit Jvm.RoadKit Bundle Jvm.Pilot.@@N@@.Jvm.D
/-- the run from this frame comes to an end that R takes -/
def own_Fin (tb : Tables) (e : Env) (below : List Frame) (R : State → Prop) (T : State) (g : JFrame) : Prop := ∃ t, Steps tb e below (T.setTop g) t ∧ R t
theorem own_st {tb : Tables} {e : Env} {below : List Frame} {R : State → Prop} {T T' : State} {g g' : JFrame} (h : own_Fin tb e below R T' g') (k : ∀ t, Steps tb e below (T'.setTop g') t → Steps tb e below (T.setTop g) t) : own_Fin tb e below R T g := by
  obtain ⟨t, a, b⟩ := h
  exact ⟨t, k t a, b⟩
def own_End (below : List Frame) (s : State) (Q : Option Value → Heap → List Loc → Prop) (cells slots : Nat) (t : State) : Prop := t.status = .running ∧ ∃ o, Ended t below o ∧ ∃ v L, o = .returned v ∧ Q v t.heap L ∧ FrameEnd s o t L cells slots
/-- a body that writes nothing -/
def own_P (h0 : Heap) (n0 : Nat) (w : Option Value) (v : Option Value) (h : Heap) (L : List Loc) : Prop := v = w ∧ Fr n0 L ∧ h = h0
theorem own_cast {tb : Tables} {e : Env} {below : List Frame} {R R' : State → Prop} {T : State} {g : JFrame} (q : R' = R) (h : own_Fin tb e below R' T g) : own_Fin tb e below R T g := q ▸ h
/-- the law: what it returns, and nothing old is written -/
def own_L (n0 : Nat) (w : Value) (v : Option Value) (h : Heap) (L : List Loc) : Prop := v = some w ∧ Fr n0 L
theorem own_lcW (a b : Int64) : lcmpW a b = if a > b then 1 else if a = b then 0 else -1 := rfl
theorem own_lc_lt {a b : Int64} : lcmpW a b < 0 ↔ a < b := by
  rw [own_lcW]
  by_cases h1 : a > b
  · rw [if_pos h1]
    exact ⟨fun h => absurd h (by decide), fun h => absurd (Int64.lt_trans h h1) Int64.lt_irrefl⟩
  · rw [if_neg h1]
    by_cases h2 : a = b
    · rw [if_pos h2]
      exact ⟨fun h => absurd h (by decide), fun h => absurd (h2 ▸ h) Int64.lt_irrefl⟩
    · rw [if_neg h2]
      refine ⟨fun _ => ?_, fun _ => by decide⟩
      rw [Int64.lt_iff_toInt_lt] at *
      have h3 : a.toInt ≠ b.toInt := fun q => h2 (Int64.toInt_inj.mp q)
      have h4 : ¬ b.toInt < a.toInt := fun q => h1 (Int64.lt_iff_toInt_lt.mpr q)
      omega
theorem own_lc_gt {a b : Int64} : 0 < lcmpW a b ↔ b < a := by
  rw [own_lcW]
  by_cases h1 : a > b
  · rw [if_pos h1]; exact ⟨fun _ => h1, fun _ => by decide⟩
  · rw [if_neg h1]
    by_cases h2 : a = b
    · rw [if_pos h2]; exact ⟨fun h => absurd h (by decide), fun h => absurd h h1⟩
    · rw [if_neg h2]; exact ⟨fun h => absurd h (by decide), fun h => absurd h h1⟩
theorem own_lc_eq {a b : Int64} : lcmpW a b = 0 ↔ a = b := by
  rw [own_lcW]
  by_cases h1 : a > b
  · rw [if_pos h1]; exact ⟨fun h => absurd h (by decide), fun h => absurd (h ▸ h1 : a > a) Int64.lt_irrefl⟩
  · rw [if_neg h1]
    by_cases h2 : a = b
    · rw [if_pos h2]; exact ⟨fun _ => h2, fun _ => rfl⟩
    · rw [if_neg h2]; exact ⟨fun h => absurd h (by decide), fun h => absurd h h2⟩
def own_EndW (below : List Frame) (s : State) (Q : Option Value → Heap → List Loc → Prop) (cells slots : Nat) (t : State) : Prop := t.status = .running ∧ ∃ o, Ended t below o ∧ ∃ v L, o = .returned v ∧ Q v t.heap L ∧ ReturnedEndW s o t L cells slots
theorem own_fr {tb : Tables} {e : Env} {below : List Frame} {R : State → Prop} {T : State} {g g' : JFrame} (q : g' = g) (h : own_Fin tb e below R T g') : own_Fin tb e below R T g := q ▸ h
theorem own_irr32 (x : Int32) : ¬ x < x := Int32.lt_irrefl
theorem own_irr64 (x : Int64) : ¬ x < x := Int64.lt_irrefl
def own_ush32 (x y : Int32) : Int32 := (x.toUInt32 >>> (y &&& 31).toUInt32).toInt32
def own_ush64 (x : Int64) (y : Int32) : Int64 := (x.toUInt64 >>> (y &&& 0x3f).toInt64.toUInt64).toInt64
section OwnStep
variable {p : Program} {l : Launch} {e : Env} {R : Room} {s : State} {m : MethodId} {args : Array Value} {below : List Frame} {meth : Method} {c : Code} {T : State} {locs : List Loc} {kc ks : Nat} {Rr : State → Prop} {Ls Ls' : Array Slot} {st : List Value} {pc pc' : Nat} {Z : State} {a0 : Array Value} {h : Heap}
theorem own_iload (X : Stand p l e R s m args below meth c T locs kc ks) (hx : p.tables.exec = Jvm.exec) {j : Nat} {v : Int32} (hd : decode c.code pc = .ok (.iload j, 2)) (hp : pc + 2 = pc') (hl : Ls[j]? = some (.val (.int v))) (h : own_Fin p.tables e below Rr T (mkF m pc' Ls (.int v :: st))) : own_Fin p.tables e below Rr T (mkF m pc Ls st) := by
  subst hp; exact own_st h (fun t k => XS.iload X.here hx rfl hd hl k)
theorem own_iloadN (X : Stand p l e R s m args below meth c T locs kc ks) (hx : p.tables.exec = Jvm.exec) {j : Fin 4} {v : Int32} (hd : decode c.code pc = .ok (.iload_n j, 1)) (hp : pc + 1 = pc') (hl : Ls[j.val]? = some (.val (.int v))) (h : own_Fin p.tables e below Rr T (mkF m pc' Ls (.int v :: st))) : own_Fin p.tables e below Rr T (mkF m pc Ls st) := by
  subst hp; exact own_st h (fun t k => XS.iloadN X.here hx rfl hd hl k)
theorem own_istore (X : Stand p l e R s m args below meth c T locs kc ks) (hx : p.tables.exec = Jvm.exec) {j : Nat} {v : Int32} (hd : decode c.code pc = .ok (.istore j, 2)) (hp : pc + 2 = pc') (hl : storeLocals Ls j (.int v) = some Ls') (h : own_Fin p.tables e below Rr T (mkF m pc' Ls' st)) : own_Fin p.tables e below Rr T (mkF m pc Ls (.int v :: st)) := by
  subst hp; exact own_st h (fun t k => XS.istore X.here hx rfl hd rfl hl k)
theorem own_istoreN (X : Stand p l e R s m args below meth c T locs kc ks) (hx : p.tables.exec = Jvm.exec) {j : Fin 4} {v : Int32} (hd : decode c.code pc = .ok (.istore_n j, 1)) (hp : pc + 1 = pc') (hl : storeLocals Ls j.val (.int v) = some Ls') (h : own_Fin p.tables e below Rr T (mkF m pc' Ls' st)) : own_Fin p.tables e below Rr T (mkF m pc Ls (.int v :: st)) := by
  subst hp; exact own_st h (fun t k => XS.istoreN X.here hx rfl hd rfl hl k)
theorem own_lload (X : Stand p l e R s m args below meth c T locs kc ks) (hx : p.tables.exec = Jvm.exec) {j : Nat} {v : Int64} (hd : decode c.code pc = .ok (.lload j, 2)) (hp : pc + 2 = pc') (hl : Ls[j]? = some (.val (.long v))) (h : own_Fin p.tables e below Rr T (mkF m pc' Ls (.long v :: st))) : own_Fin p.tables e below Rr T (mkF m pc Ls st) := by
  subst hp; exact own_st h (fun t k => XS.lload X.here hx rfl hd hl k)
theorem own_lloadN (X : Stand p l e R s m args below meth c T locs kc ks) (hx : p.tables.exec = Jvm.exec) {j : Fin 4} {v : Int64} (hd : decode c.code pc = .ok (.lload_n j, 1)) (hp : pc + 1 = pc') (hl : Ls[j.val]? = some (.val (.long v))) (h : own_Fin p.tables e below Rr T (mkF m pc' Ls (.long v :: st))) : own_Fin p.tables e below Rr T (mkF m pc Ls st) := by
  subst hp; exact own_st h (fun t k => XS.lloadN X.here hx rfl hd hl k)
theorem own_lstore (X : Stand p l e R s m args below meth c T locs kc ks) (hx : p.tables.exec = Jvm.exec) {j : Nat} {v : Int64} (hd : decode c.code pc = .ok (.lstore j, 2)) (hp : pc + 2 = pc') (hl : storeLocals Ls j (.long v) = some Ls') (h : own_Fin p.tables e below Rr T (mkF m pc' Ls' st)) : own_Fin p.tables e below Rr T (mkF m pc Ls (.long v :: st)) := by
  subst hp; exact own_st h (fun t k => XS.lstore X.here hx rfl hd rfl hl k)
theorem own_lstoreN (X : Stand p l e R s m args below meth c T locs kc ks) (hx : p.tables.exec = Jvm.exec) {j : Fin 4} {v : Int64} (hd : decode c.code pc = .ok (.lstore_n j, 1)) (hp : pc + 1 = pc') (hl : storeLocals Ls j.val (.long v) = some Ls') (h : own_Fin p.tables e below Rr T (mkF m pc' Ls' st)) : own_Fin p.tables e below Rr T (mkF m pc Ls (.long v :: st)) := by
  subst hp; exact own_st h (fun t k => XS.lstoreN X.here hx rfl hd rfl hl k)
theorem own_aload (X : Stand p l e R s m args below meth c T locs kc ks) (hx : p.tables.exec = Jvm.exec) {j : Nat} {v : Value} (hd : decode c.code pc = .ok (.aload j, 2)) (hp : pc + 2 = pc') (hl : Ls[j]? = some (.val v)) (hv : v.isRef = true) (h : own_Fin p.tables e below Rr T (mkF m pc' Ls (v :: st))) : own_Fin p.tables e below Rr T (mkF m pc Ls st) := by
  subst hp; exact own_st h (fun t k => XS.aload X.here hx rfl hd hl hv k)
theorem own_aloadN (X : Stand p l e R s m args below meth c T locs kc ks) (hx : p.tables.exec = Jvm.exec) {j : Fin 4} {v : Value} (hd : decode c.code pc = .ok (.aload_n j, 1)) (hp : pc + 1 = pc') (hl : Ls[j.val]? = some (.val v)) (hv : v.isRef = true) (h : own_Fin p.tables e below Rr T (mkF m pc' Ls (v :: st))) : own_Fin p.tables e below Rr T (mkF m pc Ls st) := by
  subst hp; exact own_st h (fun t k => XS.aloadN X.here hx rfl hd hl hv k)
theorem own_astore (X : Stand p l e R s m args below meth c T locs kc ks) (hx : p.tables.exec = Jvm.exec) {j : Nat} {v : Value} (hd : decode c.code pc = .ok (.astore j, 2)) (hp : pc + 2 = pc') (hv : v.isRef = true) (hl : storeLocals Ls j v = some Ls') (h : own_Fin p.tables e below Rr T (mkF m pc' Ls' st)) : own_Fin p.tables e below Rr T (mkF m pc Ls (v :: st)) := by
  subst hp; exact own_st h (fun t k => XS.astore X.here hx rfl hd rfl hv hl k)
theorem own_astoreN (X : Stand p l e R s m args below meth c T locs kc ks) (hx : p.tables.exec = Jvm.exec) {j : Fin 4} {v : Value} (hd : decode c.code pc = .ok (.astore_n j, 1)) (hp : pc + 1 = pc') (hv : v.isRef = true) (hl : storeLocals Ls j.val v = some Ls') (h : own_Fin p.tables e below Rr T (mkF m pc' Ls' st)) : own_Fin p.tables e below Rr T (mkF m pc Ls (v :: st)) := by
  subst hp; exact own_st h (fun t k => XS.astoreN X.here hx rfl hd rfl hv hl k)
theorem own_iconst (X : Stand p l e R s m args below meth c T locs kc ks) (hx : p.tables.exec = Jvm.exec) {i : Int} {v : Int32} (hd : decode c.code pc = .ok (.iconst i, 1)) (hp : pc + 1 = pc') (hv : Int32.ofInt i = v) (h : own_Fin p.tables e below Rr T (mkF m pc' Ls (.int v :: st))) : own_Fin p.tables e below Rr T (mkF m pc Ls st) := by
  subst hp; exact own_st h (fun t k => XS.iconst X.here hx rfl hd (hv ▸ k))
theorem own_bipush (X : Stand p l e R s m args below meth c T locs kc ks) (hx : p.tables.exec = Jvm.exec) {i : Int} {v : Int32} (hd : decode c.code pc = .ok (.bipush i, 2)) (hp : pc + 2 = pc') (hv : (Int8.ofInt i).toInt32 = v) (h : own_Fin p.tables e below Rr T (mkF m pc' Ls (.int v :: st))) : own_Fin p.tables e below Rr T (mkF m pc Ls st) := by
  subst hp; exact own_st h (fun t k => XS.bipush X.here hx rfl hd (hv ▸ k))
theorem own_sipush (X : Stand p l e R s m args below meth c T locs kc ks) (hx : p.tables.exec = Jvm.exec) {i : Int} {v : Int32} (hd : decode c.code pc = .ok (.sipush i, 3)) (hp : pc + 3 = pc') (hv : (Int16.ofInt i).toInt32 = v) (h : own_Fin p.tables e below Rr T (mkF m pc' Ls (.int v :: st))) : own_Fin p.tables e below Rr T (mkF m pc Ls st) := by
  subst hp; exact own_st h (fun t k => XS.sipush X.here hx rfl hd (hv ▸ k))
theorem own_lconst (X : Stand p l e R s m args below meth c T locs kc ks) (hx : p.tables.exec = Jvm.exec) {i : Fin 2} {v : Int64} (hd : decode c.code pc = .ok (.lconst i, 1)) (hp : pc + 1 = pc') (hv : Int64.ofNat i = v) (h : own_Fin p.tables e below Rr T (mkF m pc' Ls (.long v :: st))) : own_Fin p.tables e below Rr T (mkF m pc Ls st) := by
  subst hp; exact own_st h (fun t k => XS.lconst X.here hx rfl hd (hv ▸ k))
theorem own_aconstNull (X : Stand p l e R s m args below meth c T locs kc ks) (hx : p.tables.exec = Jvm.exec)  (hd : decode c.code pc = .ok (.aconst_null, 1)) (hp : pc + 1 = pc')  (h : own_Fin p.tables e below Rr T (mkF m pc' Ls (.null :: st))) : own_Fin p.tables e below Rr T (mkF m pc Ls st) := by
  subst hp; exact own_st h (fun t k => XS.aconstNull X.here hx rfl hd k)
theorem own_iadd (X : Stand p l e R s m args below meth c T locs kc ks) (hx : p.tables.exec = Jvm.exec) {x y : Int32} (hd : decode c.code pc = .ok (.iadd, 1)) (hp : pc + 1 = pc')  (h : own_Fin p.tables e below Rr T (mkF m pc' Ls (.int (x + y) :: st))) : own_Fin p.tables e below Rr T (mkF m pc Ls (.int y :: .int x :: st)) := by
  subst hp; exact own_st h (fun t k => XS.iadd X.here hx rfl hd rfl k)
theorem own_ladd (X : Stand p l e R s m args below meth c T locs kc ks) (hx : p.tables.exec = Jvm.exec) {x y : Int64} (hd : decode c.code pc = .ok (.ladd, 1)) (hp : pc + 1 = pc')  (h : own_Fin p.tables e below Rr T (mkF m pc' Ls (.long (x + y) :: st))) : own_Fin p.tables e below Rr T (mkF m pc Ls (.long y :: .long x :: st)) := by
  subst hp; exact own_st h (fun t k => XS.ladd X.here hx rfl hd rfl k)
theorem own_isub (X : Stand p l e R s m args below meth c T locs kc ks) (hx : p.tables.exec = Jvm.exec) {x y : Int32} (hd : decode c.code pc = .ok (.isub, 1)) (hp : pc + 1 = pc')  (h : own_Fin p.tables e below Rr T (mkF m pc' Ls (.int (x - y) :: st))) : own_Fin p.tables e below Rr T (mkF m pc Ls (.int y :: .int x :: st)) := by
  subst hp; exact own_st h (fun t k => XS.isub X.here hx rfl hd rfl k)
theorem own_lsub (X : Stand p l e R s m args below meth c T locs kc ks) (hx : p.tables.exec = Jvm.exec) {x y : Int64} (hd : decode c.code pc = .ok (.lsub, 1)) (hp : pc + 1 = pc')  (h : own_Fin p.tables e below Rr T (mkF m pc' Ls (.long (x - y) :: st))) : own_Fin p.tables e below Rr T (mkF m pc Ls (.long y :: .long x :: st)) := by
  subst hp; exact own_st h (fun t k => XS.lsub X.here hx rfl hd rfl k)
theorem own_imul (X : Stand p l e R s m args below meth c T locs kc ks) (hx : p.tables.exec = Jvm.exec) {x y : Int32} (hd : decode c.code pc = .ok (.imul, 1)) (hp : pc + 1 = pc')  (h : own_Fin p.tables e below Rr T (mkF m pc' Ls (.int (x * y) :: st))) : own_Fin p.tables e below Rr T (mkF m pc Ls (.int y :: .int x :: st)) := by
  subst hp; exact own_st h (fun t k => XS.imul X.here hx rfl hd rfl k)
theorem own_lmul (X : Stand p l e R s m args below meth c T locs kc ks) (hx : p.tables.exec = Jvm.exec) {x y : Int64} (hd : decode c.code pc = .ok (.lmul, 1)) (hp : pc + 1 = pc')  (h : own_Fin p.tables e below Rr T (mkF m pc' Ls (.long (x * y) :: st))) : own_Fin p.tables e below Rr T (mkF m pc Ls (.long y :: .long x :: st)) := by
  subst hp; exact own_st h (fun t k => XS.lmul X.here hx rfl hd rfl k)
theorem own_iand (X : Stand p l e R s m args below meth c T locs kc ks) (hx : p.tables.exec = Jvm.exec) {x y : Int32} (hd : decode c.code pc = .ok (.iand, 1)) (hp : pc + 1 = pc')  (h : own_Fin p.tables e below Rr T (mkF m pc' Ls (.int (x &&& y) :: st))) : own_Fin p.tables e below Rr T (mkF m pc Ls (.int y :: .int x :: st)) := by
  subst hp; exact own_st h (fun t k => XS.iand X.here hx rfl hd rfl k)
theorem own_land (X : Stand p l e R s m args below meth c T locs kc ks) (hx : p.tables.exec = Jvm.exec) {x y : Int64} (hd : decode c.code pc = .ok (.land, 1)) (hp : pc + 1 = pc')  (h : own_Fin p.tables e below Rr T (mkF m pc' Ls (.long (x &&& y) :: st))) : own_Fin p.tables e below Rr T (mkF m pc Ls (.long y :: .long x :: st)) := by
  subst hp; exact own_st h (fun t k => XS.land X.here hx rfl hd rfl k)
theorem own_ior (X : Stand p l e R s m args below meth c T locs kc ks) (hx : p.tables.exec = Jvm.exec) {x y : Int32} (hd : decode c.code pc = .ok (.ior, 1)) (hp : pc + 1 = pc')  (h : own_Fin p.tables e below Rr T (mkF m pc' Ls (.int (x ||| y) :: st))) : own_Fin p.tables e below Rr T (mkF m pc Ls (.int y :: .int x :: st)) := by
  subst hp; exact own_st h (fun t k => XS.ior X.here hx rfl hd rfl k)
theorem own_lor (X : Stand p l e R s m args below meth c T locs kc ks) (hx : p.tables.exec = Jvm.exec) {x y : Int64} (hd : decode c.code pc = .ok (.lor, 1)) (hp : pc + 1 = pc')  (h : own_Fin p.tables e below Rr T (mkF m pc' Ls (.long (x ||| y) :: st))) : own_Fin p.tables e below Rr T (mkF m pc Ls (.long y :: .long x :: st)) := by
  subst hp; exact own_st h (fun t k => XS.lor X.here hx rfl hd rfl k)
theorem own_ixor (X : Stand p l e R s m args below meth c T locs kc ks) (hx : p.tables.exec = Jvm.exec) {x y : Int32} (hd : decode c.code pc = .ok (.ixor, 1)) (hp : pc + 1 = pc')  (h : own_Fin p.tables e below Rr T (mkF m pc' Ls (.int (x ^^^ y) :: st))) : own_Fin p.tables e below Rr T (mkF m pc Ls (.int y :: .int x :: st)) := by
  subst hp; exact own_st h (fun t k => XS.ixor X.here hx rfl hd rfl k)
theorem own_lxor (X : Stand p l e R s m args below meth c T locs kc ks) (hx : p.tables.exec = Jvm.exec) {x y : Int64} (hd : decode c.code pc = .ok (.lxor, 1)) (hp : pc + 1 = pc')  (h : own_Fin p.tables e below Rr T (mkF m pc' Ls (.long (x ^^^ y) :: st))) : own_Fin p.tables e below Rr T (mkF m pc Ls (.long y :: .long x :: st)) := by
  subst hp; exact own_st h (fun t k => XS.lxor X.here hx rfl hd rfl k)
theorem own_idiv (X : Stand p l e R s m args below meth c T locs kc ks) (hx : p.tables.exec = Jvm.exec) {x y : Int32} (hd : decode c.code pc = .ok (.idiv, 1)) (hp : pc + 1 = pc') (hy : y ≠ 0) (h : own_Fin p.tables e below Rr T (mkF m pc' Ls (.int (x / y) :: st))) : own_Fin p.tables e below Rr T (mkF m pc Ls (.int y :: .int x :: st)) := by
  subst hp; exact own_st h (fun t k => XS.idiv X.here hx rfl hd rfl hy k)
theorem own_ldiv (X : Stand p l e R s m args below meth c T locs kc ks) (hx : p.tables.exec = Jvm.exec) {x y : Int64} (hd : decode c.code pc = .ok (.ldiv, 1)) (hp : pc + 1 = pc') (hy : y ≠ 0) (h : own_Fin p.tables e below Rr T (mkF m pc' Ls (.long (x / y) :: st))) : own_Fin p.tables e below Rr T (mkF m pc Ls (.long y :: .long x :: st)) := by
  subst hp; exact own_st h (fun t k => XS.ldiv X.here hx rfl hd rfl hy k)
theorem own_irem (X : Stand p l e R s m args below meth c T locs kc ks) (hx : p.tables.exec = Jvm.exec) {x y : Int32} (hd : decode c.code pc = .ok (.irem, 1)) (hp : pc + 1 = pc') (hy : y ≠ 0) (h : own_Fin p.tables e below Rr T (mkF m pc' Ls (.int (x - (x / y) * y) :: st))) : own_Fin p.tables e below Rr T (mkF m pc Ls (.int y :: .int x :: st)) := by
  subst hp; exact own_st h (fun t k => XS.irem X.here hx rfl hd rfl hy k)
theorem own_lrem (X : Stand p l e R s m args below meth c T locs kc ks) (hx : p.tables.exec = Jvm.exec) {x y : Int64} (hd : decode c.code pc = .ok (.lrem, 1)) (hp : pc + 1 = pc') (hy : y ≠ 0) (h : own_Fin p.tables e below Rr T (mkF m pc' Ls (.long (x - (x / y) * y) :: st))) : own_Fin p.tables e below Rr T (mkF m pc Ls (.long y :: .long x :: st)) := by
  subst hp; exact own_st h (fun t k => XS.lrem X.here hx rfl hd rfl hy k)
theorem own_ishl (X : Stand p l e R s m args below meth c T locs kc ks) (hx : p.tables.exec = Jvm.exec) {x y : Int32} (hd : decode c.code pc = .ok (.ishl, 1)) (hp : pc + 1 = pc')  (h : own_Fin p.tables e below Rr T (mkF m pc' Ls (.int (x <<< (y &&& 31)) :: st))) : own_Fin p.tables e below Rr T (mkF m pc Ls (.int y :: .int x :: st)) := by
  subst hp; exact own_st h (fun t k => XS.ishl X.here hx rfl hd rfl k)
theorem own_ishr (X : Stand p l e R s m args below meth c T locs kc ks) (hx : p.tables.exec = Jvm.exec) {x y : Int32} (hd : decode c.code pc = .ok (.ishr, 1)) (hp : pc + 1 = pc')  (h : own_Fin p.tables e below Rr T (mkF m pc' Ls (.int (x >>> (y &&& 31)) :: st))) : own_Fin p.tables e below Rr T (mkF m pc Ls (.int y :: .int x :: st)) := by
  subst hp; exact own_st h (fun t k => XS.ishr X.here hx rfl hd rfl k)
theorem own_iushr (X : Stand p l e R s m args below meth c T locs kc ks) (hx : p.tables.exec = Jvm.exec) {x y : Int32} (hd : decode c.code pc = .ok (.iushr, 1)) (hp : pc + 1 = pc')  (h : own_Fin p.tables e below Rr T (mkF m pc' Ls (.int (own_ush32 x y) :: st))) : own_Fin p.tables e below Rr T (mkF m pc Ls (.int y :: .int x :: st)) := by
  subst hp; exact own_st h (fun t k => XS.iushr X.here hx rfl hd rfl k)
theorem own_lshl (X : Stand p l e R s m args below meth c T locs kc ks) (hx : p.tables.exec = Jvm.exec) {x : Int64} {y : Int32} (hd : decode c.code pc = .ok (.lshl, 1)) (hp : pc + 1 = pc')  (h : own_Fin p.tables e below Rr T (mkF m pc' Ls (.long (x <<< (y &&& 63).toInt64) :: st))) : own_Fin p.tables e below Rr T (mkF m pc Ls (.int y :: .long x :: st)) := by
  subst hp; exact own_st h (fun t k => XS.lshl X.here hx rfl hd rfl k)
theorem own_lshr (X : Stand p l e R s m args below meth c T locs kc ks) (hx : p.tables.exec = Jvm.exec) {x : Int64} {y : Int32} (hd : decode c.code pc = .ok (.lshr, 1)) (hp : pc + 1 = pc')  (h : own_Fin p.tables e below Rr T (mkF m pc' Ls (.long (x >>> (y &&& 63).toInt64) :: st))) : own_Fin p.tables e below Rr T (mkF m pc Ls (.int y :: .long x :: st)) := by
  subst hp; exact own_st h (fun t k => XS.lshr X.here hx rfl hd rfl k)
theorem own_lushr (X : Stand p l e R s m args below meth c T locs kc ks) (hx : p.tables.exec = Jvm.exec) {x : Int64} {y : Int32} (hd : decode c.code pc = .ok (.lushr, 1)) (hp : pc + 1 = pc')  (h : own_Fin p.tables e below Rr T (mkF m pc' Ls (.long (own_ush64 x y) :: st))) : own_Fin p.tables e below Rr T (mkF m pc Ls (.int y :: .long x :: st)) := by
  subst hp; exact own_st h (fun t k => XS.lushr X.here hx rfl hd rfl k)
theorem own_ineg (X : Stand p l e R s m args below meth c T locs kc ks) (hx : p.tables.exec = Jvm.exec) {x : Int32} (hd : decode c.code pc = .ok (.ineg, 1)) (hp : pc + 1 = pc')  (h : own_Fin p.tables e below Rr T (mkF m pc' Ls (.int (-x) :: st))) : own_Fin p.tables e below Rr T (mkF m pc Ls (.int x :: st)) := by
  subst hp; exact own_st h (fun t k => XS.ineg X.here hx rfl hd rfl k)
theorem own_lneg (X : Stand p l e R s m args below meth c T locs kc ks) (hx : p.tables.exec = Jvm.exec) {x : Int64} (hd : decode c.code pc = .ok (.lneg, 1)) (hp : pc + 1 = pc')  (h : own_Fin p.tables e below Rr T (mkF m pc' Ls (.long (-x) :: st))) : own_Fin p.tables e below Rr T (mkF m pc Ls (.long x :: st)) := by
  subst hp; exact own_st h (fun t k => XS.lneg X.here hx rfl hd rfl k)
theorem own_i2l (X : Stand p l e R s m args below meth c T locs kc ks) (hx : p.tables.exec = Jvm.exec) {x : Int32} (hd : decode c.code pc = .ok (.i2l, 1)) (hp : pc + 1 = pc')  (h : own_Fin p.tables e below Rr T (mkF m pc' Ls (.long (x.toInt64) :: st))) : own_Fin p.tables e below Rr T (mkF m pc Ls (.int x :: st)) := by
  subst hp; exact own_st h (fun t k => XS.i2l X.here hx rfl hd rfl k)
theorem own_l2i (X : Stand p l e R s m args below meth c T locs kc ks) (hx : p.tables.exec = Jvm.exec) {x : Int64} (hd : decode c.code pc = .ok (.l2i, 1)) (hp : pc + 1 = pc')  (h : own_Fin p.tables e below Rr T (mkF m pc' Ls (.int (x.toInt32) :: st))) : own_Fin p.tables e below Rr T (mkF m pc Ls (.long x :: st)) := by
  subst hp; exact own_st h (fun t k => XS.l2i X.here hx rfl hd rfl k)
theorem own_i2b (X : Stand p l e R s m args below meth c T locs kc ks) (hx : p.tables.exec = Jvm.exec) {x : Int32} (hd : decode c.code pc = .ok (.i2b, 1)) (hp : pc + 1 = pc')  (h : own_Fin p.tables e below Rr T (mkF m pc' Ls (.int (x.toInt8.toInt32) :: st))) : own_Fin p.tables e below Rr T (mkF m pc Ls (.int x :: st)) := by
  subst hp; exact own_st h (fun t k => XS.i2b X.here hx rfl hd rfl k)
theorem own_i2s (X : Stand p l e R s m args below meth c T locs kc ks) (hx : p.tables.exec = Jvm.exec) {x : Int32} (hd : decode c.code pc = .ok (.i2s, 1)) (hp : pc + 1 = pc')  (h : own_Fin p.tables e below Rr T (mkF m pc' Ls (.int (x.toInt16.toInt32) :: st))) : own_Fin p.tables e below Rr T (mkF m pc Ls (.int x :: st)) := by
  subst hp; exact own_st h (fun t k => XS.i2s X.here hx rfl hd rfl k)
theorem own_lcmp (X : Stand p l e R s m args below meth c T locs kc ks) (hx : p.tables.exec = Jvm.exec) {x y : Int64} (hd : decode c.code pc = .ok (.lcmp, 1)) (hp : pc + 1 = pc')  (h : own_Fin p.tables e below Rr T (mkF m pc' Ls (.int (lcmpW x y) :: st))) : own_Fin p.tables e below Rr T (mkF m pc Ls (.long y :: .long x :: st)) := by
  subst hp; exact own_st h (fun t k => XS.lcmp X.here hx rfl hd rfl k)
theorem own_iinc (X : Stand p l e R s m args below meth c T locs kc ks) (hx : p.tables.exec = Jvm.exec) {j : Nat} {i : Int} {x : Int32} (hd : decode c.code pc = .ok (.iinc j i, 3)) (hp : pc + 3 = pc') (hl : Ls[j]? = some (.val (.int x))) (hl' : storeLocals Ls j (.int (x + Int32.ofInt i)) = some Ls') (h : own_Fin p.tables e below Rr T (mkF m pc' Ls' st)) : own_Fin p.tables e below Rr T (mkF m pc Ls st) := by
  subst hp; exact own_st h (fun t k => XS.iinc X.here hx rfl hd hl hl' k)
theorem own_dup (X : Stand p l e R s m args below meth c T locs kc ks) (hx : p.tables.exec = Jvm.exec) {v : Value} (hd : decode c.code pc = .ok (.dup, 1)) (hp : pc + 1 = pc') (hc : v.category = 1) (h : own_Fin p.tables e below Rr T (mkF m pc' Ls (v :: v :: st))) : own_Fin p.tables e below Rr T (mkF m pc Ls (v :: st)) := by
  subst hp; exact own_st h (fun t k => XS.dup X.here hx rfl hd rfl hc k)
theorem own_pop (X : Stand p l e R s m args below meth c T locs kc ks) (hx : p.tables.exec = Jvm.exec) {v : Value} (hd : decode c.code pc = .ok (.pop, 1)) (hp : pc + 1 = pc') (hc : v.category = 1) (h : own_Fin p.tables e below Rr T (mkF m pc' Ls st)) : own_Fin p.tables e below Rr T (mkF m pc Ls (v :: st)) := by
  subst hp; exact own_st h (fun t k => XS.pop X.here hx rfl hd rfl hc k)
theorem own_goto (X : Stand p l e R s m args below meth c T locs kc ks) (hx : p.tables.exec = Jvm.exec) {o : Int} (hd : decode c.code pc = .ok (.goto o, 3))  (ho : 0 ≤ (pc : Int) + o) (hp : ((pc : Int) + o).toNat = pc') (h : own_Fin p.tables e below Rr T (mkF m pc' Ls st)) : own_Fin p.tables e below Rr T (mkF m pc Ls st) := own_st h (fun t k => XS.goto X.here hx rfl (pc0 := pc) (pc' := pc') rfl hd ho hp k)
theorem own_ifYes (X : Stand p l e R s m args below meth c T locs kc ks) (hx : p.tables.exec = Jvm.exec) {cd : ClassFile.Cond} {o : Int} {x : Int32} (hd : decode c.code pc = .ok (.ifCond cd o, 3)) (hc : ifCond.holds cd x = true) (ho : 0 ≤ (pc : Int) + o) (hp : ((pc : Int) + o).toNat = pc') (h : own_Fin p.tables e below Rr T (mkF m pc' Ls st)) : own_Fin p.tables e below Rr T (mkF m pc Ls (.int x :: st)) := own_st h (fun t k => XS.ifYes X.here hx rfl (pc0 := pc) (pc' := pc') rfl hd rfl hc ho hp k)
theorem own_icmpYes (X : Stand p l e R s m args below meth c T locs kc ks) (hx : p.tables.exec = Jvm.exec) {cd : ClassFile.Cond} {o : Int} {x y : Int32} (hd : decode c.code pc = .ok (.if_icmp cd o, 3)) (hc : if_icmp.holds cd x y = true) (ho : 0 ≤ (pc : Int) + o) (hp : ((pc : Int) + o).toNat = pc') (h : own_Fin p.tables e below Rr T (mkF m pc' Ls st)) : own_Fin p.tables e below Rr T (mkF m pc Ls (.int y :: .int x :: st)) := own_st h (fun t k => XS.icmpYes X.here hx rfl (pc0 := pc) (pc' := pc') rfl hd rfl hc ho hp k)
theorem own_ifNo (X : Stand p l e R s m args below meth c T locs kc ks) (hx : p.tables.exec = Jvm.exec) {cd : ClassFile.Cond} {o : Int} {x : Int32} (hd : decode c.code pc = .ok (.ifCond cd o, 3)) (hp : pc + 3 = pc') (hc : ifCond.holds cd x = false) (h : own_Fin p.tables e below Rr T (mkF m pc' Ls st)) : own_Fin p.tables e below Rr T (mkF m pc Ls (.int x :: st)) := by
  subst hp; exact own_st h (fun t k => XS.ifNo X.here hx rfl hd rfl hc k)
theorem own_icmpNo (X : Stand p l e R s m args below meth c T locs kc ks) (hx : p.tables.exec = Jvm.exec) {cd : ClassFile.Cond} {o : Int} {x y : Int32} (hd : decode c.code pc = .ok (.if_icmp cd o, 3)) (hp : pc + 3 = pc') (hc : if_icmp.holds cd x y = false) (h : own_Fin p.tables e below Rr T (mkF m pc' Ls st)) : own_Fin p.tables e below Rr T (mkF m pc Ls (.int y :: .int x :: st)) := by
  subst hp; exact own_st h (fun t k => XS.icmpNo X.here hx rfl hd rfl hc k)
theorem own_ldcInt (X : Stand p l e R s m args below meth c T locs kc ks) (hx : p.tables.exec = Jvm.exec) {own : String} {index : Nat} {v : Int32} (hZ : Z.Warmed39 s.vm) (hown : s.vm.findClass own = some m.cls) (w : (Jvm.Cond.constant own index v).before a0 Z = true) (hd : decode c.code pc = .ok (.ldc index, 2)) (hp : pc + 2 = pc') (h : own_Fin p.tables e below Rr T (mkF m pc' Ls (.int v :: st))) : own_Fin p.tables e below Rr T (mkF m pc Ls st) := by
  subst hp; exact own_st h (fun t k => X.ldcInt hx hown (mvT hZ w) (g := mkF m pc Ls st) rfl hd t k)
theorem own_ldc2Long (X : Stand p l e R s m args below meth c T locs kc ks) (hx : p.tables.exec = Jvm.exec) {own : String} {index : Nat} {v : Int64} (hZ : Z.Warmed39 s.vm) (hown : s.vm.findClass own = some m.cls) (w : (Jvm.Cond.constantLong own index v).before a0 Z = true) (hd : decode c.code pc = .ok (.ldc2_w index, 3)) (hp : pc + 3 = pc') (h : own_Fin p.tables e below Rr T (mkF m pc' Ls (.long v :: st))) : own_Fin p.tables e below Rr T (mkF m pc Ls st) := by
  subst hp; exact own_st h (fun t k => X.ldc2Long hx hown (mvT hZ w) (g := mkF m pc Ls st) rfl hd t k)
theorem own_getF (X : Stand p l e R s m args below meth c T locs kc ks) (hx : p.tables.exec = Jvm.exec) {own R0 O n d : String} {index : Nat} {a : Addr} {v : Value} (hZ : Z.Warmed39 s.vm) (hown : s.vm.findClass own = some m.cls) (w : (Jvm.Cond.fieldLink own index R0 n d).before a0 Z = true) (via : Via Z R0 O n d) (eT : T.heap = h) (Fl : Fld Z h a O n d v) (hd : decode c.code pc = .ok (.getfield index, 3)) (hp : pc + 3 = pc')
    (k : ∀ T', Stand p l e R s m args below meth c T' locs kc ks → T'.heap = h → own_Fin p.tables e below Rr T' (mkF m pc' Ls (v :: st))) : own_Fin p.tables e below Rr T (mkF m pc Ls (.ref a :: st)) := by
  obtain ⟨T', X', e', st'⟩ := getF X hx hZ hown (host := "") (Or.inl w) via eT Fl (g := mkF m pc Ls (.ref a :: st)) rfl rfl hd
  subst hp; exact own_st (k T' X' e') st'
end OwnStep
section OwnPop
variable {p : Program} {l : Launch} {e : Env} {R : Room} {s : State} {m : MethodId} {args : Array Value} {below : List Frame} {meth : Method} {c : Code} {T : State} {locs : List Loc} {k n : Nat}
theorem own_pop2 (X : Stand p l e R s m args below meth c T locs k n) (hx : p.tables.exec = Jvm.exec) {pc : Nat} {Ls : Array Slot} {z : Int64} {rest : List Value} {t : State} (hd : decode c.code pc = .ok (.pop2, 1)) (hr : Steps p.tables e below (T.setTop (mkF m (pc + 1) Ls rest)) t) : Steps p.tables e below (T.setTop (mkF m pc Ls (.long z :: rest))) t := by
  jvm_step X.here [X.here.top, hx, hd, Value.category]
  exact hr
end OwnPop
section OwnRet
variable {p : Program} {l : Launch} {e : Env} {R : Room} {s : State} {m : MethodId} {args : Array Value} {below : List Frame} {meth : Method} {c : Code} {T : State} {locs : List Loc} {k n k' n' : Nat} {Q : Option Value → Heap → List Loc → Prop} {pc : Nat} {Ls : Array Slot}
theorem own_retN (X : Stand p l e R s m args below meth c T locs k n) (hx : p.tables.exec = Jvm.exec) {t : FieldType} (hret : meth.sig.returnType = some t) (ht : t = .boolean ∨ t = .byte ∨ t = .char ∨ t = .short) (hlk : meth.locks = false) {z : Int32} {rest : List Value} (hd : decode c.code pc = .ok (.ireturn, 1)) (hk : k ≤ k') (hn : n ≤ n') (hq : Q (some (.int (nar t z))) T.heap locs) : own_Fin p.tables e below (own_End below s Q k' n') T (mkF m pc Ls (.int z :: rest)) := by
  obtain ⟨fs, hr, hrun, hended, hW, hsame⟩ := X.leave (v := some (.int (nar t z))) (fun h => by rw [hret] at h; cases h) hlk
  exact ⟨_, retN X hx hret ht hd hr, hrun, _, hended, _, _, rfl, hq, ⟨_, rfl⟩, hW, hsame.mono hk hn⟩
theorem own_retNW {vm₁ : Vm} {k0 : Nat} (X : Stand p l e R (s.setVm vm₁) m args below meth c T locs k n) (hx : p.tables.exec = Jvm.exec) (hS : s.Since vm₁ k0) (hk0 : k0 ≤ T.heap.size) {t : FieldType} (hret : meth.sig.returnType = some t) (ht : t = .boolean ∨ t = .byte ∨ t = .char ∨ t = .short) (hlk : meth.locks = false) {z : Int32} {rest : List Value} (hd : decode c.code pc = .ok (.ireturn, 1)) (hk : k ≤ k') (hn : n ≤ n') (hq : Q (some (.int (nar t z))) T.heap locs) : own_Fin p.tables e below (own_EndW below s Q k' n') T (mkF m pc Ls (.int z :: rest)) := by
  obtain ⟨fs, hr, hrun, hended, hW⟩ := X.leaveW hS hk0 (v := some (.int (nar t z))) (fun h => by rw [hret] at h; cases h) hlk
  exact ⟨_, retN X hx hret ht hd hr, hrun, _, hended, _, _, rfl, hq, hW.1, hW.2.1, hW.2.2.1, hW.2.2.2.mono hk hn⟩
theorem own_retI (X : Stand p l e R s m args below meth c T locs k n) (hx : p.tables.exec = Jvm.exec) (hret : meth.sig.returnType = some .int) (hlk : meth.locks = false) {z : Int32} {rest : List Value} (hd : decode c.code pc = .ok (.ireturn, 1)) (hk : k ≤ k') (hn : n ≤ n') (hq : Q (some (.int z)) T.heap locs) : own_Fin p.tables e below (own_End below s Q k' n') T (mkF m pc Ls (.int z :: rest)) := by
  obtain ⟨fs, hr, hrun, hended, hW, hsame⟩ := X.leave (v := some (.int z)) (fun h => by rw [hret] at h; cases h) hlk
  exact ⟨_, retI X hx hret hd hr, hrun, _, hended, _, _, rfl, hq, ⟨_, rfl⟩, hW, hsame.mono hk hn⟩
theorem own_retJ (X : Stand p l e R s m args below meth c T locs k n) (hx : p.tables.exec = Jvm.exec) (hret : meth.sig.returnType = some .long) (hlk : meth.locks = false) {z : Int64} (hd : decode c.code pc = .ok (.lreturn, 1)) (hk : k ≤ k') (hn : n ≤ n') (hq : Q (some (.long z)) T.heap locs) : own_Fin p.tables e below (own_End below s Q k' n') T (mkF m pc Ls [.long z]) := by
  obtain ⟨fs, hr, hrun, hended, hW, hsame⟩ := X.leave (v := some (.long z)) (fun h => by rw [hret] at h; cases h) hlk
  exact ⟨_, lreturnOut X hx hret hd hr, hrun, _, hended, _, _, rfl, hq, ⟨_, rfl⟩, hW, hsame.mono hk hn⟩
theorem own_retV (X : Stand p l e R s m args below meth c T locs k n) (hx : p.tables.exec = Jvm.exec) (hret : meth.sig.returnType = none) (hlk : meth.locks = false) (hd : decode c.code pc = .ok (.return_, 1)) (hk : k ≤ k') (hn : n ≤ n') (hq : Q none T.heap locs) : own_Fin p.tables e below (own_End below s Q k' n') T (mkF m pc Ls []) := by
  obtain ⟨fs, hr, hrun, hended, hW, hsame⟩ := X.leave (v := none) (fun _ => rfl) hlk
  exact ⟨_, X.returnOut hx hret hd hr, hrun, _, hended, _, _, rfl, hq, ⟨_, rfl⟩, hW, hsame.mono hk hn⟩
end OwnRet
end Jvm.Pilot.@@N@@
namespace Jvm.Pilot.@@N@@
open Jvm Jvm.ClassFile Sem Op Lib Jvm.Free Jvm.Stand Jvm.LawKit Jvm.RoadKit Bundle Jvm.Pilot.@@N@@.Jvm.D
theorem pd_0 : parseMethodDescriptor "(I)I" = some ⟨[.int], some .int⟩ := by decide +kernel
theorem pd_1 : parseMethodDescriptor "([B)Z" = some ⟨[(.array .byte)], some .boolean⟩ := by decide +kernel
theorem d1_0 : decode method_2_code 0 = .ok (.iload_n 0, 1) := by decide +kernel
theorem d1_1 : decode method_2_code 1 = .ok (.ldc 7, 2) := by decide +kernel
theorem d1_3 : decode method_2_code 3 = .ok (.iand, 1) := by decide +kernel
theorem d1_4 : decode method_2_code 4 = .ok (.bipush 10, 2) := by decide +kernel
theorem d1_6 : decode method_2_code 6 = .ok (.irem, 1) := by decide +kernel
theorem d1_7 : decode method_2_code 7 = .ok (.ireturn, 1) := by decide +kernel
theorem pn_1 : plainName "com/example/zhuanjie/zhuanjie/core/MessageIsResponsePinLaw" = true := by first | (simp [plainName, overriddenIn]; done) | decide +kernel
def own_f1 (q1 : Int32) : Int32 :=
  ((q1 &&& (2147483647 : Int32)) - ((q1 &&& (2147483647 : Int32)) / (10 : Int32)) * (10 : Int32))
set_option maxRecDepth 65536 in
set_option maxHeartbeats 40000000 in
theorem sg1_0 {p : Program} (l : Launch) {e : Env} {s : State} {m : MethodId} {args : Array Value} {below : List Frame} {meth : Method} {c : Code} {Z : State} {a0 : Array Value} (hw : ∀ d ∈ tables_1, d.before a0 Z = true) (hx : p.tables.exec = Jvm.exec) (hZ : Z.Warmed39 s.vm) (hby : c.code = method_2_code) (hml : c.maxLocals = 1) (hown : s.vm.findClass "com/example/zhuanjie/zhuanjie/core/MessageIsResponsePinLaw" = some m.cls) (hnm : meth.name = "digit") (hret : meth.sig.returnType = (some .int)) (hlk : meth.locks = false) (q1 : Int32) {h0 : Heap} {n0 : Nat} (Z0 : n0 ≤ h0.size) {T0 : State} {L0 : List Loc} (X0 : Stand p l e ({ frames := 0, cells := 0, slots := 0, locals := 0 } : Room) s m args below meth c T0 L0 0 0) (N0 : Fr n0 L0) (e0 : T0.heap = h0)  :
    own_Fin p.tables e below (own_End below s (own_P h0 n0 (some (.int (own_f1 q1)))) 0 0) T0 (mkF m 0 #[.val (.int q1)] []) := by
  refine own_iloadN X0 hx (hb hby d1_0) (pc' := 1) rfl rfl ?_
  refine own_ldcInt X0 hx hZ hown (hw _ (List.mem_of_getElem? (i := 4) rfl)) (hb hby d1_1) (pc' := 3) rfl ?_
  refine own_iand X0 hx (hb hby d1_3) (pc' := 4) rfl ?_
  refine own_bipush X0 hx (hb hby d1_4) (pc' := 6) rfl (v := (10 : Int32)) rfl ?_
  refine own_irem X0 hx (hb hby d1_6) (pc' := 7) rfl (by decide) ?_
  refine own_retI X0 hx hret hlk (hb hby d1_7) (by decide) (by decide) ?_
  show own_P _ _ _ _ T0.heap _
  exact ⟨(congrArg some (congrArg Value.int (show ((q1 &&& (2147483647 : Int32)) - ((q1 &&& (2147483647 : Int32)) / (10 : Int32)) * (10 : Int32)) = (own_f1 q1) from by rw [own_f1]))), N0, e0⟩
theorem ef_1 (m : MethodId) (q1 : Int32) : entryFrame m #[(.int q1)] 1 = mkF m 0 #[.val (.int q1)] [] := by first | (simp [entryFrame, mkF, argsToLocals, Value.category]; done) | rfl
set_option maxRecDepth 65536 in
set_option maxHeartbeats 40000000 in
theorem rm1 (l : Launch) (Z : State) (a0 : Array Value) (hw : ∀ d ∈ tables_1, d.before a0 Z = true) (ws : List Jvm.Cond) (q1 : Int32) (h0 : Heap) (n0 : Nat) (Z0 : n0 ≤ h0.size)  :
    MetFree l (⟨"com/example/zhuanjie/zhuanjie/core/MessageIsResponsePinLaw", "digit", "(I)I"⟩ : MethodName) (head1 (Jvm.Cond.code (⟨"com/example/zhuanjie/zhuanjie/core/MessageIsResponsePinLaw", "digit", "(I)I"⟩ : MethodName) method_2_code 1 (some .int) :: ws) ({ frames := 0, cells := 0, slots := 0, locals := 0 } : Room)) (fun a U => a = #[(.int q1)] ∧ Z.Warmed39 U.vm ∧ U.heap = h0) (fun _ _ _ _ _ => True) (fun _ U o U' => ∃ v L, o = .returned v ∧ (own_P h0 n0 (some (.int (own_f1 q1)))) v U'.heap L ∧ FrameEnd U o U' L ({ frames := 0, cells := 0, slots := 0, locals := 0 } : Room).cells ({ frames := 0, cells := 0, slots := 0, locals := 0 } : Room).slots) := by
  refine MetFree.of_bodySF (plainFor_of_name pn_1) hisR ?_
  intro p e s m args below meth c s₁ Bd hml0 hP hK
  obtain ⟨rfl, hZ, hh⟩ := hP
  have hown : s.vm.findClass "com/example/zhuanjie/zhuanjie/core/MessageIsResponsePinLaw" = some m.cls := findClass_of_methodNamed Bd.named
  have hnm := (name_of_methodNamed Bd.named Bd.method).1
  have X0 : Stand p l e ({ frames := 0, cells := 0, slots := 0, locals := 0 } : Room) s m #[(.int q1)] below meth c s₁ [] 0 0 := Stand.of_body Bd
  have e0 : s₁.heap = h0 := by rw [← hh, Bd.state]; rfl
  have H := sg1_0 l hw Bd.exec hZ Bd.bytes hml0 hown hnm Bd.returns Bd.notSynchronized q1 Z0 X0 (Fr.nil n0) e0
  obtain ⟨t, h1, h2, o, h3, h4⟩ := H
  exact ⟨t, o, castTop (ef_1 m q1) h1, h2, h3, h4⟩
theorem d2_0 : decode prog_79_method_8_code 0 = .ok (.aload_n 0, 1) := by decide +kernel
theorem d2_1 : decode prog_79_method_8_code 1 = .ok (.iconst 2, 1) := by decide +kernel
theorem d2_2 : decode prog_79_method_8_code 2 = .ok (.baload, 1) := by decide +kernel
theorem d2_3 : decode prog_79_method_8_code 3 = .ok (.bipush 48, 2) := by decide +kernel
theorem d2_5 : decode prog_79_method_8_code 5 = .ok (.isub, 1) := by decide +kernel
theorem d2_6 : decode prog_79_method_8_code 6 = .ok (.iconst 2, 1) := by decide +kernel
theorem d2_7 : decode prog_79_method_8_code 7 = .ok (.irem, 1) := by decide +kernel
theorem d2_8 : decode prog_79_method_8_code 8 = .ok (.iconst 1, 1) := by decide +kernel
theorem d2_9 : decode prog_79_method_8_code 9 = .ok (.if_icmp .ne 7, 3) := by decide +kernel
theorem d2_12 : decode prog_79_method_8_code 12 = .ok (.iconst 1, 1) := by decide +kernel
theorem d2_13 : decode prog_79_method_8_code 13 = .ok (.goto 4, 3) := by decide +kernel
theorem d2_16 : decode prog_79_method_8_code 16 = .ok (.iconst 0, 1) := by decide +kernel
theorem d2_17 : decode prog_79_method_8_code 17 = .ok (.ireturn, 1) := by decide +kernel
theorem pn_2 : plainName "com/example/zhuanjie/zhuanjie/core/Message" = true := by first | (simp [plainName, overriddenIn]; done) | decide +kernel
def own_f2 (w0_q1 : Int32) (w1_q1 : Int32) (w2_q1 : Int32) (w3_q1 : Int32) : Int32 :=
  if ((w2_q1 - (48 : Int32)) - ((w2_q1 - (48 : Int32)) / (2 : Int32)) * (2 : Int32)) = (1 : Int32) then (1 : Int32) else
  (0 : Int32)
set_option maxRecDepth 65536 in
set_option maxHeartbeats 40000000 in
theorem sg2_0 {p : Program} (l : Launch) {e : Env} {s : State} {m : MethodId} {args : Array Value} {below : List Frame} {meth : Method} {c : Code} {Z : State} {a0 : Array Value} (hw : ∀ d ∈ tables_1, d.before a0 Z = true) (hx : p.tables.exec = Jvm.exec) (hZ : Z.Warmed39 s.vm) (hby : c.code = prog_79_method_8_code) (hml : c.maxLocals = 1) (hown : s.vm.findClass "com/example/zhuanjie/zhuanjie/core/Message" = some m.cls) (hnm : meth.name = "isResponse") (hret : meth.sig.returnType = (some .boolean)) (hlk : meth.locks = false) (q1 : Addr) (kc_q1 : ClassId) (w0_q1 : Int32) (w1_q1 : Int32) (w2_q1 : Int32) (w3_q1 : Int32) {h0 : Heap} {n0 : Nat} (Z0 : n0 ≤ h0.size) {T0 : State} {L0 : List Loc} (X0 : Stand p l e ({ frames := 0, cells := 0, slots := 0, locals := 0 } : Room) s m args below meth c T0 L0 0 0) (N0 : Fr n0 L0) (e0 : T0.heap = h0) (A_q1 : Arv Z h0 q1 kc_q1 .byte (4 : Int32) [(.int w0_q1), (.int w1_q1), (.int w2_q1), (.int w3_q1)] (.int (0 : Int32))) :
    own_Fin p.tables e below (own_End below s (own_P h0 n0 (some (.int (own_f2 w0_q1 w1_q1 w2_q1 w3_q1)))) 0 0) T0 (mkF m 0 #[.val (.ref q1)] []) := by
  refine own_aloadN X0 hx (hb hby d2_0) (pc' := 1) rfl rfl rfl ?_
  refine own_iconst X0 hx (hb hby d2_1) (pc' := 2) rfl (v := (2 : Int32)) rfl ?_
  obtain ⟨cl1, Ar1, qa1, S1, M1, H1, G1⟩ := id A_q1
  have hin1 : ¬ ((2 : Int32) < 0 ∨ cl1.slots.size ≤ ((2 : Int32)).toNatClampNeg) := inb_of S1 ⟨by decide, by decide⟩
  refine own_st ?_ (fun t k => X0.baloadBytes hx (j := (2 : Int32)) (v := (.int w2_q1)) (by rw [e0]; exact Ar1.1) (State.isArrayOf_alike hZ.alike Ar1.2.1) Ar1.2.2 hin1 (Has.at H1 hin1 rfl) (g := (mkF m 2 #[.val (.ref q1)] [(.int (2 : Int32)), (.ref q1)])) rfl rfl (hb hby d2_2) t k)
  show own_Fin _ _ _ _ T0 (mkF m 3 #[.val (.ref q1)] [(.int w2_q1)])
  refine own_bipush X0 hx (hb hby d2_3) (pc' := 5) rfl (v := (48 : Int32)) rfl ?_
  refine own_isub X0 hx (hb hby d2_5) (pc' := 6) rfl ?_
  refine own_iconst X0 hx (hb hby d2_6) (pc' := 7) rfl (v := (2 : Int32)) rfl ?_
  refine own_irem X0 hx (hb hby d2_7) (pc' := 8) rfl (by decide) ?_
  refine own_iconst X0 hx (hb hby d2_8) (pc' := 9) rfl (v := (1 : Int32)) rfl ?_
  by_cases hc2 : ((w2_q1 - (48 : Int32)) - ((w2_q1 - (48 : Int32)) / (2 : Int32)) * (2 : Int32)) = (1 : Int32)
  · refine own_icmpNo X0 hx (hb hby d2_9) (pc' := 12) rfl (teq hc2).2 ?_
    refine own_iconst X0 hx (hb hby d2_12) (pc' := 13) rfl (v := (1 : Int32)) rfl ?_
    refine own_goto X0 hx (hb hby d2_13) (pc' := 17) (by decide) (by decide) ?_
    refine own_retN X0 hx (t := .boolean) hret (by simp) hlk (hb hby d2_17) (by decide) (by decide) ?_
    show own_P _ _ _ _ T0.heap _
    exact ⟨(congrArg some (congrArg Value.int (show _ = (own_f2 w0_q1 w1_q1 w2_q1 w3_q1) from by rw [own_f2, if_pos hc2]; rfl))), N0, e0⟩
  · refine own_icmpYes X0 hx (hb hby d2_9) (feq hc2).2 (pc' := 16) (by decide) (by decide) ?_
    refine own_iconst X0 hx (hb hby d2_16) (pc' := 17) rfl (v := (0 : Int32)) rfl ?_
    refine own_retN X0 hx (t := .boolean) hret (by simp) hlk (hb hby d2_17) (by decide) (by decide) ?_
    show own_P _ _ _ _ T0.heap _
    exact ⟨(congrArg some (congrArg Value.int (show _ = (own_f2 w0_q1 w1_q1 w2_q1 w3_q1) from by rw [own_f2, if_neg hc2]; rfl))), N0, e0⟩
theorem ef_2 (m : MethodId) (q1 : Addr) : entryFrame m #[(.ref q1)] 1 = mkF m 0 #[.val (.ref q1)] [] := by first | (simp [entryFrame, mkF, argsToLocals, Value.category]; done) | rfl
set_option maxRecDepth 65536 in
set_option maxHeartbeats 40000000 in
theorem rm2 (l : Launch) (Z : State) (a0 : Array Value) (hw : ∀ d ∈ tables_1, d.before a0 Z = true) (ws : List Jvm.Cond) (q1 : Addr) (kc_q1 : ClassId) (w0_q1 : Int32) (w1_q1 : Int32) (w2_q1 : Int32) (w3_q1 : Int32) (h0 : Heap) (n0 : Nat) (Z0 : n0 ≤ h0.size) (A_q1 : Arv Z h0 q1 kc_q1 .byte (4 : Int32) [(.int w0_q1), (.int w1_q1), (.int w2_q1), (.int w3_q1)] (.int (0 : Int32))) :
    MetFree l (⟨"com/example/zhuanjie/zhuanjie/core/Message", "isResponse", "([B)Z"⟩ : MethodName) (head1 (Jvm.Cond.code (⟨"com/example/zhuanjie/zhuanjie/core/Message", "isResponse", "([B)Z"⟩ : MethodName) prog_79_method_8_code 1 (some .boolean) :: ws) ({ frames := 0, cells := 0, slots := 0, locals := 0 } : Room)) (fun a U => a = #[(.ref q1)] ∧ Z.Warmed39 U.vm ∧ U.heap = h0) (fun _ _ _ _ _ => True) (fun _ U o U' => ∃ v L, o = .returned v ∧ (own_P h0 n0 (some (.int (own_f2 w0_q1 w1_q1 w2_q1 w3_q1)))) v U'.heap L ∧ FrameEnd U o U' L ({ frames := 0, cells := 0, slots := 0, locals := 0 } : Room).cells ({ frames := 0, cells := 0, slots := 0, locals := 0 } : Room).slots) := by
  refine MetFree.of_bodySF (plainFor_of_name pn_2) hisR ?_
  intro p e s m args below meth c s₁ Bd hml0 hP hK
  obtain ⟨rfl, hZ, hh⟩ := hP
  have hown : s.vm.findClass "com/example/zhuanjie/zhuanjie/core/Message" = some m.cls := findClass_of_methodNamed Bd.named
  have hnm := (name_of_methodNamed Bd.named Bd.method).1
  have X0 : Stand p l e ({ frames := 0, cells := 0, slots := 0, locals := 0 } : Room) s m #[(.ref q1)] below meth c s₁ [] 0 0 := Stand.of_body Bd
  have e0 : s₁.heap = h0 := by rw [← hh, Bd.state]; rfl
  have H := sg2_0 l hw Bd.exec hZ Bd.bytes hml0 hown hnm Bd.returns Bd.notSynchronized q1 kc_q1 w0_q1 w1_q1 w2_q1 w3_q1 Z0 X0 (Fr.nil n0) e0 A_q1
  obtain ⟨t, h1, h2, o, h3, h4⟩ := H
  exact ⟨t, o, castTop (ef_2 m q1) h1, h2, h3, h4⟩
theorem pn_0 : plainName "com/example/zhuanjie/zhuanjie/core/MessageIsResponsePinLaw" = true := by first | (simp [plainName, overriddenIn]; done) | decide +kernel
def own_f0_72 (v1 : Int32) (v2 : Int32) (v3 : Int32) (v4 : Int32) (v5 : Int32) (v6 : Int32) (v7 : Int32) (v8 : Int32) (v10 : Int32) : Int32 :=
  if v7 = (1 : Int32) then (if v10 = (1 : Int32) then (1 : Int32) else
    (0 : Int32)) else
  if v7 = (3 : Int32) then (if v10 = (1 : Int32) then (1 : Int32) else
    (0 : Int32)) else
  if v7 = (5 : Int32) then (if v10 = (1 : Int32) then (1 : Int32) else
    (0 : Int32)) else
  if v7 = (7 : Int32) then (if v10 = (1 : Int32) then (1 : Int32) else
    (0 : Int32)) else
  if v7 = (9 : Int32) then (if v10 = (1 : Int32) then (1 : Int32) else
    (0 : Int32)) else
  if v10 = (0 : Int32) then (1 : Int32) else
  (0 : Int32)
def own_f0 (q1 : Int32) (q2 : Int32) (q3 : Int32) (q4 : Int32) : Int32 :=
  (own_f0_72 q1 q2 q3 q4 (own_f1 q1) (own_f1 q2) (own_f1 q3) (own_f1 q4) (own_f2 (nar .byte (((48 : Int32) + (own_f1 q1)).toInt8.toInt32)) (nar .byte (((48 : Int32) + (own_f1 q2)).toInt8.toInt32)) (nar .byte (((48 : Int32) + (own_f1 q3)).toInt8.toInt32)) (nar .byte (((48 : Int32) + (own_f1 q4)).toInt8.toInt32))))
set_option maxRecDepth 65536 in
set_option maxHeartbeats 40000000 in
theorem sg0_72 {p : Program} (l : Launch) {e : Env} {s : State} {m : MethodId} {args : Array Value} {below : List Frame} {meth : Method} {c : Code} {Z : State} {a0 : Array Value} (hw : ∀ d ∈ tables_1, d.before a0 Z = true) (hx : p.tables.exec = Jvm.exec) (hZ : Z.Warmed39 s.vm) (hby : c.code = code) (hml : c.maxLocals = 11) (hown : s.vm.findClass "com/example/zhuanjie/zhuanjie/core/MessageIsResponsePinLaw" = some m.cls) (hnm : meth.name = "law") (hret : meth.sig.returnType = (some .boolean)) (hlk : meth.locks = false) (v1 : Int32) (v2 : Int32) (v3 : Int32) (v4 : Int32) (v5 : Int32) (v6 : Int32) (v7 : Int32) (v8 : Int32) (v9 : Addr) (v10 : Int32) {h0 : Heap} {n0 : Nat} (Z0 : n0 ≤ h0.size) {T0 : State} {L0 : List Loc} (X0 : Stand p l e room_1 s m args below meth c T0 L0 1 4) (N0 : Fr n0 L0) (e0 : T0.heap = h0)  :
    own_Fin p.tables e below (own_End below s (own_L n0 (.int (own_f0_72 v1 v2 v3 v4 v5 v6 v7 v8 v10))) 1 4) T0 (mkF m 72 #[.val (.int v1), .val (.int v2), .val (.int v3), .val (.int v4), .val (.int v5), .val (.int v6), .val (.int v7), .val (.int v8), .val (.ref v9), .val (.int v10), .unset] []) := by
  refine own_iload X0 hx (hb hby at_72) (pc' := 74) rfl rfl ?_
  refine own_iconst X0 hx (hb hby at_74) (pc' := 75) rfl (v := (1 : Int32)) rfl ?_
  by_cases hc13 : v7 = (1 : Int32)
  · refine own_icmpYes X0 hx (hb hby at_75) (teq hc13).1 (pc' := 104) (by decide) (by decide) ?_
    refine own_iconst X0 hx (hb hby at_104) (pc' := 105) rfl (v := (1 : Int32)) rfl ?_
    refine own_goto X0 hx (hb hby at_105) (pc' := 109) (by decide) (by decide) ?_
    refine own_istore X0 hx (hb hby at_109) (pc' := 111) rfl (Ls' := #[.val (.int v1), .val (.int v2), .val (.int v3), .val (.int v4), .val (.int v5), .val (.int v6), .val (.int v7), .val (.int v8), .val (.ref v9), .val (.int v10), .val (.int (1 : Int32))]) rfl ?_
    refine own_iload X0 hx (hb hby at_111) (pc' := 113) rfl rfl ?_
    refine own_iload X0 hx (hb hby at_113) (pc' := 115) rfl rfl ?_
    by_cases hc14 : v10 = (1 : Int32)
    · refine own_icmpNo X0 hx (hb hby at_115) (pc' := 118) rfl (teq hc14).2 ?_
      refine own_iconst X0 hx (hb hby at_118) (pc' := 119) rfl (v := (1 : Int32)) rfl ?_
      refine own_goto X0 hx (hb hby at_119) (pc' := 123) (by decide) (by decide) ?_
      refine own_retN X0 hx (t := .boolean) hret (by simp) hlk (hb hby at_123) (by decide) (by decide) ?_
      exact ⟨(congrArg some (congrArg Value.int (show _ = (own_f0_72 v1 v2 v3 v4 v5 v6 v7 v8 v10) from by rw [own_f0_72, if_pos hc13, if_pos hc14]; rfl))), N0⟩
    · refine own_icmpYes X0 hx (hb hby at_115) (feq hc14).2 (pc' := 122) (by decide) (by decide) ?_
      refine own_iconst X0 hx (hb hby at_122) (pc' := 123) rfl (v := (0 : Int32)) rfl ?_
      refine own_retN X0 hx (t := .boolean) hret (by simp) hlk (hb hby at_123) (by decide) (by decide) ?_
      exact ⟨(congrArg some (congrArg Value.int (show _ = (own_f0_72 v1 v2 v3 v4 v5 v6 v7 v8 v10) from by rw [own_f0_72, if_pos hc13, if_neg hc14]; rfl))), N0⟩
  · refine own_icmpNo X0 hx (hb hby at_75) (pc' := 78) rfl (feq hc13).1 ?_
    refine own_iload X0 hx (hb hby at_78) (pc' := 80) rfl rfl ?_
    refine own_iconst X0 hx (hb hby at_80) (pc' := 81) rfl (v := (3 : Int32)) rfl ?_
    by_cases hc15 : v7 = (3 : Int32)
    · refine own_icmpYes X0 hx (hb hby at_81) (teq hc15).1 (pc' := 104) (by decide) (by decide) ?_
      refine own_iconst X0 hx (hb hby at_104) (pc' := 105) rfl (v := (1 : Int32)) rfl ?_
      refine own_goto X0 hx (hb hby at_105) (pc' := 109) (by decide) (by decide) ?_
      refine own_istore X0 hx (hb hby at_109) (pc' := 111) rfl (Ls' := #[.val (.int v1), .val (.int v2), .val (.int v3), .val (.int v4), .val (.int v5), .val (.int v6), .val (.int v7), .val (.int v8), .val (.ref v9), .val (.int v10), .val (.int (1 : Int32))]) rfl ?_
      refine own_iload X0 hx (hb hby at_111) (pc' := 113) rfl rfl ?_
      refine own_iload X0 hx (hb hby at_113) (pc' := 115) rfl rfl ?_
      by_cases hc16 : v10 = (1 : Int32)
      · refine own_icmpNo X0 hx (hb hby at_115) (pc' := 118) rfl (teq hc16).2 ?_
        refine own_iconst X0 hx (hb hby at_118) (pc' := 119) rfl (v := (1 : Int32)) rfl ?_
        refine own_goto X0 hx (hb hby at_119) (pc' := 123) (by decide) (by decide) ?_
        refine own_retN X0 hx (t := .boolean) hret (by simp) hlk (hb hby at_123) (by decide) (by decide) ?_
        exact ⟨(congrArg some (congrArg Value.int (show _ = (own_f0_72 v1 v2 v3 v4 v5 v6 v7 v8 v10) from by rw [own_f0_72, if_neg hc13, if_pos hc15, if_pos hc16]; rfl))), N0⟩
      · refine own_icmpYes X0 hx (hb hby at_115) (feq hc16).2 (pc' := 122) (by decide) (by decide) ?_
        refine own_iconst X0 hx (hb hby at_122) (pc' := 123) rfl (v := (0 : Int32)) rfl ?_
        refine own_retN X0 hx (t := .boolean) hret (by simp) hlk (hb hby at_123) (by decide) (by decide) ?_
        exact ⟨(congrArg some (congrArg Value.int (show _ = (own_f0_72 v1 v2 v3 v4 v5 v6 v7 v8 v10) from by rw [own_f0_72, if_neg hc13, if_pos hc15, if_neg hc16]; rfl))), N0⟩
    · refine own_icmpNo X0 hx (hb hby at_81) (pc' := 84) rfl (feq hc15).1 ?_
      refine own_iload X0 hx (hb hby at_84) (pc' := 86) rfl rfl ?_
      refine own_iconst X0 hx (hb hby at_86) (pc' := 87) rfl (v := (5 : Int32)) rfl ?_
      by_cases hc17 : v7 = (5 : Int32)
      · refine own_icmpYes X0 hx (hb hby at_87) (teq hc17).1 (pc' := 104) (by decide) (by decide) ?_
        refine own_iconst X0 hx (hb hby at_104) (pc' := 105) rfl (v := (1 : Int32)) rfl ?_
        refine own_goto X0 hx (hb hby at_105) (pc' := 109) (by decide) (by decide) ?_
        refine own_istore X0 hx (hb hby at_109) (pc' := 111) rfl (Ls' := #[.val (.int v1), .val (.int v2), .val (.int v3), .val (.int v4), .val (.int v5), .val (.int v6), .val (.int v7), .val (.int v8), .val (.ref v9), .val (.int v10), .val (.int (1 : Int32))]) rfl ?_
        refine own_iload X0 hx (hb hby at_111) (pc' := 113) rfl rfl ?_
        refine own_iload X0 hx (hb hby at_113) (pc' := 115) rfl rfl ?_
        by_cases hc18 : v10 = (1 : Int32)
        · refine own_icmpNo X0 hx (hb hby at_115) (pc' := 118) rfl (teq hc18).2 ?_
          refine own_iconst X0 hx (hb hby at_118) (pc' := 119) rfl (v := (1 : Int32)) rfl ?_
          refine own_goto X0 hx (hb hby at_119) (pc' := 123) (by decide) (by decide) ?_
          refine own_retN X0 hx (t := .boolean) hret (by simp) hlk (hb hby at_123) (by decide) (by decide) ?_
          exact ⟨(congrArg some (congrArg Value.int (show _ = (own_f0_72 v1 v2 v3 v4 v5 v6 v7 v8 v10) from by rw [own_f0_72, if_neg hc13, if_neg hc15, if_pos hc17, if_pos hc18]; rfl))), N0⟩
        · refine own_icmpYes X0 hx (hb hby at_115) (feq hc18).2 (pc' := 122) (by decide) (by decide) ?_
          refine own_iconst X0 hx (hb hby at_122) (pc' := 123) rfl (v := (0 : Int32)) rfl ?_
          refine own_retN X0 hx (t := .boolean) hret (by simp) hlk (hb hby at_123) (by decide) (by decide) ?_
          exact ⟨(congrArg some (congrArg Value.int (show _ = (own_f0_72 v1 v2 v3 v4 v5 v6 v7 v8 v10) from by rw [own_f0_72, if_neg hc13, if_neg hc15, if_pos hc17, if_neg hc18]; rfl))), N0⟩
      · refine own_icmpNo X0 hx (hb hby at_87) (pc' := 90) rfl (feq hc17).1 ?_
        refine own_iload X0 hx (hb hby at_90) (pc' := 92) rfl rfl ?_
        refine own_bipush X0 hx (hb hby at_92) (pc' := 94) rfl (v := (7 : Int32)) rfl ?_
        by_cases hc19 : v7 = (7 : Int32)
        · refine own_icmpYes X0 hx (hb hby at_94) (teq hc19).1 (pc' := 104) (by decide) (by decide) ?_
          refine own_iconst X0 hx (hb hby at_104) (pc' := 105) rfl (v := (1 : Int32)) rfl ?_
          refine own_goto X0 hx (hb hby at_105) (pc' := 109) (by decide) (by decide) ?_
          refine own_istore X0 hx (hb hby at_109) (pc' := 111) rfl (Ls' := #[.val (.int v1), .val (.int v2), .val (.int v3), .val (.int v4), .val (.int v5), .val (.int v6), .val (.int v7), .val (.int v8), .val (.ref v9), .val (.int v10), .val (.int (1 : Int32))]) rfl ?_
          refine own_iload X0 hx (hb hby at_111) (pc' := 113) rfl rfl ?_
          refine own_iload X0 hx (hb hby at_113) (pc' := 115) rfl rfl ?_
          by_cases hc20 : v10 = (1 : Int32)
          · refine own_icmpNo X0 hx (hb hby at_115) (pc' := 118) rfl (teq hc20).2 ?_
            refine own_iconst X0 hx (hb hby at_118) (pc' := 119) rfl (v := (1 : Int32)) rfl ?_
            refine own_goto X0 hx (hb hby at_119) (pc' := 123) (by decide) (by decide) ?_
            refine own_retN X0 hx (t := .boolean) hret (by simp) hlk (hb hby at_123) (by decide) (by decide) ?_
            exact ⟨(congrArg some (congrArg Value.int (show _ = (own_f0_72 v1 v2 v3 v4 v5 v6 v7 v8 v10) from by rw [own_f0_72, if_neg hc13, if_neg hc15, if_neg hc17, if_pos hc19, if_pos hc20]; rfl))), N0⟩
          · refine own_icmpYes X0 hx (hb hby at_115) (feq hc20).2 (pc' := 122) (by decide) (by decide) ?_
            refine own_iconst X0 hx (hb hby at_122) (pc' := 123) rfl (v := (0 : Int32)) rfl ?_
            refine own_retN X0 hx (t := .boolean) hret (by simp) hlk (hb hby at_123) (by decide) (by decide) ?_
            exact ⟨(congrArg some (congrArg Value.int (show _ = (own_f0_72 v1 v2 v3 v4 v5 v6 v7 v8 v10) from by rw [own_f0_72, if_neg hc13, if_neg hc15, if_neg hc17, if_pos hc19, if_neg hc20]; rfl))), N0⟩
        · refine own_icmpNo X0 hx (hb hby at_94) (pc' := 97) rfl (feq hc19).1 ?_
          refine own_iload X0 hx (hb hby at_97) (pc' := 99) rfl rfl ?_
          refine own_bipush X0 hx (hb hby at_99) (pc' := 101) rfl (v := (9 : Int32)) rfl ?_
          by_cases hc21 : v7 = (9 : Int32)
          · refine own_icmpNo X0 hx (hb hby at_101) (pc' := 104) rfl (teq hc21).2 ?_
            refine own_iconst X0 hx (hb hby at_104) (pc' := 105) rfl (v := (1 : Int32)) rfl ?_
            refine own_goto X0 hx (hb hby at_105) (pc' := 109) (by decide) (by decide) ?_
            refine own_istore X0 hx (hb hby at_109) (pc' := 111) rfl (Ls' := #[.val (.int v1), .val (.int v2), .val (.int v3), .val (.int v4), .val (.int v5), .val (.int v6), .val (.int v7), .val (.int v8), .val (.ref v9), .val (.int v10), .val (.int (1 : Int32))]) rfl ?_
            refine own_iload X0 hx (hb hby at_111) (pc' := 113) rfl rfl ?_
            refine own_iload X0 hx (hb hby at_113) (pc' := 115) rfl rfl ?_
            by_cases hc22 : v10 = (1 : Int32)
            · refine own_icmpNo X0 hx (hb hby at_115) (pc' := 118) rfl (teq hc22).2 ?_
              refine own_iconst X0 hx (hb hby at_118) (pc' := 119) rfl (v := (1 : Int32)) rfl ?_
              refine own_goto X0 hx (hb hby at_119) (pc' := 123) (by decide) (by decide) ?_
              refine own_retN X0 hx (t := .boolean) hret (by simp) hlk (hb hby at_123) (by decide) (by decide) ?_
              exact ⟨(congrArg some (congrArg Value.int (show _ = (own_f0_72 v1 v2 v3 v4 v5 v6 v7 v8 v10) from by rw [own_f0_72, if_neg hc13, if_neg hc15, if_neg hc17, if_neg hc19, if_pos hc21, if_pos hc22]; rfl))), N0⟩
            · refine own_icmpYes X0 hx (hb hby at_115) (feq hc22).2 (pc' := 122) (by decide) (by decide) ?_
              refine own_iconst X0 hx (hb hby at_122) (pc' := 123) rfl (v := (0 : Int32)) rfl ?_
              refine own_retN X0 hx (t := .boolean) hret (by simp) hlk (hb hby at_123) (by decide) (by decide) ?_
              exact ⟨(congrArg some (congrArg Value.int (show _ = (own_f0_72 v1 v2 v3 v4 v5 v6 v7 v8 v10) from by rw [own_f0_72, if_neg hc13, if_neg hc15, if_neg hc17, if_neg hc19, if_pos hc21, if_neg hc22]; rfl))), N0⟩
          · refine own_icmpYes X0 hx (hb hby at_101) (feq hc21).2 (pc' := 108) (by decide) (by decide) ?_
            refine own_iconst X0 hx (hb hby at_108) (pc' := 109) rfl (v := (0 : Int32)) rfl ?_
            refine own_istore X0 hx (hb hby at_109) (pc' := 111) rfl (Ls' := #[.val (.int v1), .val (.int v2), .val (.int v3), .val (.int v4), .val (.int v5), .val (.int v6), .val (.int v7), .val (.int v8), .val (.ref v9), .val (.int v10), .val (.int (0 : Int32))]) rfl ?_
            refine own_iload X0 hx (hb hby at_111) (pc' := 113) rfl rfl ?_
            refine own_iload X0 hx (hb hby at_113) (pc' := 115) rfl rfl ?_
            by_cases hc23 : v10 = (0 : Int32)
            · refine own_icmpNo X0 hx (hb hby at_115) (pc' := 118) rfl (teq hc23).2 ?_
              refine own_iconst X0 hx (hb hby at_118) (pc' := 119) rfl (v := (1 : Int32)) rfl ?_
              refine own_goto X0 hx (hb hby at_119) (pc' := 123) (by decide) (by decide) ?_
              refine own_retN X0 hx (t := .boolean) hret (by simp) hlk (hb hby at_123) (by decide) (by decide) ?_
              exact ⟨(congrArg some (congrArg Value.int (show _ = (own_f0_72 v1 v2 v3 v4 v5 v6 v7 v8 v10) from by rw [own_f0_72, if_neg hc13, if_neg hc15, if_neg hc17, if_neg hc19, if_neg hc21, if_pos hc23]; rfl))), N0⟩
            · refine own_icmpYes X0 hx (hb hby at_115) (feq hc23).2 (pc' := 122) (by decide) (by decide) ?_
              refine own_iconst X0 hx (hb hby at_122) (pc' := 123) rfl (v := (0 : Int32)) rfl ?_
              refine own_retN X0 hx (t := .boolean) hret (by simp) hlk (hb hby at_123) (by decide) (by decide) ?_
              exact ⟨(congrArg some (congrArg Value.int (show _ = (own_f0_72 v1 v2 v3 v4 v5 v6 v7 v8 v10) from by rw [own_f0_72, if_neg hc13, if_neg hc15, if_neg hc17, if_neg hc19, if_neg hc21, if_neg hc23]; rfl))), N0⟩
set_option maxRecDepth 65536 in
set_option maxHeartbeats 40000000 in
theorem sg0_0 {p : Program} (l : Launch) {e : Env} {s : State} {m : MethodId} {args : Array Value} {below : List Frame} {meth : Method} {c : Code} {Z : State} {a0 : Array Value} (hw : ∀ d ∈ tables_1, d.before a0 Z = true) (hx : p.tables.exec = Jvm.exec) (hZ : Z.Warmed39 s.vm) (hby : c.code = code) (hml : c.maxLocals = 11) (hown : s.vm.findClass "com/example/zhuanjie/zhuanjie/core/MessageIsResponsePinLaw" = some m.cls) (hnm : meth.name = "law") (hret : meth.sig.returnType = (some .boolean)) (hlk : meth.locks = false) (q1 : Int32) (q2 : Int32) (q3 : Int32) (q4 : Int32) {h0 : Heap} {n0 : Nat} (Z0 : n0 ≤ h0.size) {T0 : State} {L0 : List Loc} (X0 : Stand p l e room_1 s m args below meth c T0 L0 0 0) (N0 : Fr n0 L0) (e0 : T0.heap = h0)  :
    own_Fin p.tables e below (own_End below s (own_L n0 (.int (own_f0 q1 q2 q3 q4))) 1 4) T0 (mkF m 0 #[.val (.int q1), .val (.int q2), .val (.int q3), .val (.int q4), .unset, .unset, .unset, .unset, .unset, .unset, .unset] []) := by
  refine own_iloadN X0 hx (hb hby at_0) (pc' := 1) rfl rfl ?_
  obtain ⟨_, _, ⟨T3, L3, k3, n3⟩, -, X3, ⟨Lc3, hQ3, l3, y3, z3⟩, st3⟩ := Jvm.LawKit.callS X0 hx (y := (⟨"com/example/zhuanjie/zhuanjie/core/MessageIsResponsePinLaw", "digit", "(I)I"⟩ : MethodName)) hown (mvT hZ (hw _ (List.mem_of_getElem? (i := 0) rfl))) (mvT hZ (hw _ (List.mem_of_getElem? (i := 1) rfl))) (mvT hZ (hw _ (List.mem_of_getElem? (i := 2) rfl))) (mvT hZ (hw _ (List.mem_of_getElem? (i := 3) rfl))) (by decide) (backOf (W := 0) (rm1 l Z a0 hw [] q1 h0 n0 Z0 ) hZ (hw _ (List.mem_of_getElem? (i := 3) rfl)) (hw _ (List.mem_of_getElem? (i := 2) rfl)) (by decide) (by decide)) (g := (mkF m 1 #[.val (.int q1), .val (.int q2), .val (.int q3), .val (.int q4), .unset, .unset, .unset, .unset, .unset, .unset, .unset] [(.int q1)])) rfl (by rw [hml]; rfl) (argsL := [(.int q1)]) (rest := []) (lenOf pd_0 rfl) rfl (by show 2 * 0 + _ ≤ _; exact Nat.le_of_eq rfl) (hb hby at_1) (fun _ _ => ⟨rfl, e0, (by decide : 0 + 0 ≤ _), (by decide : 0 + 0 ≤ _)⟩)
  dsimp only [Pt.U, Pt.locs, Pt.cells, Pt.slots] at X3 l3 y3 z3 st3 hQ3
  subst l3 y3 z3
  obtain ⟨rfl, N3q, e3'⟩ := hQ3
  have N3 := Fr.app N0 N3q
  refine own_st ?_ st3
  show own_Fin _ _ _ _ T3 (mkF m 4 #[.val (.int q1), .val (.int q2), .val (.int q3), .val (.int q4), .unset, .unset, .unset, .unset, .unset, .unset, .unset] [(.int (own_f1 q1))])
  refine own_istore X3 hx (hb hby at_4) (pc' := 6) rfl (Ls' := #[.val (.int q1), .val (.int q2), .val (.int q3), .val (.int q4), .val (.int (own_f1 q1)), .unset, .unset, .unset, .unset, .unset, .unset]) rfl ?_
  refine own_iloadN X3 hx (hb hby at_6) (pc' := 7) rfl rfl ?_
  obtain ⟨_, _, ⟨T4, L4, k4, n4⟩, -, X4, ⟨Lc4, hQ4, l4, y4, z4⟩, st4⟩ := Jvm.LawKit.callS X3 hx (y := (⟨"com/example/zhuanjie/zhuanjie/core/MessageIsResponsePinLaw", "digit", "(I)I"⟩ : MethodName)) hown (mvT hZ (hw _ (List.mem_of_getElem? (i := 0) rfl))) (mvT hZ (hw _ (List.mem_of_getElem? (i := 1) rfl))) (mvT hZ (hw _ (List.mem_of_getElem? (i := 2) rfl))) (mvT hZ (hw _ (List.mem_of_getElem? (i := 3) rfl))) (by decide) (backOf (W := 0) (rm1 l Z a0 hw [] q2 h0 n0 Z0 ) hZ (hw _ (List.mem_of_getElem? (i := 3) rfl)) (hw _ (List.mem_of_getElem? (i := 2) rfl)) (by decide) (by decide)) (g := (mkF m 7 #[.val (.int q1), .val (.int q2), .val (.int q3), .val (.int q4), .val (.int (own_f1 q1)), .unset, .unset, .unset, .unset, .unset, .unset] [(.int q2)])) rfl (by rw [hml]; rfl) (argsL := [(.int q2)]) (rest := []) (lenOf pd_0 rfl) rfl (by show 2 * 0 + _ ≤ _; exact Nat.le_of_eq rfl) (hb hby at_7) (fun _ _ => ⟨rfl, e3', (by decide : 0 + 0 ≤ _), (by decide : 0 + 0 ≤ _)⟩)
  dsimp only [Pt.U, Pt.locs, Pt.cells, Pt.slots] at X4 l4 y4 z4 st4 hQ4
  subst l4 y4 z4
  obtain ⟨rfl, N4q, e4'⟩ := hQ4
  have N4 := Fr.app N3 N4q
  refine own_st ?_ st4
  show own_Fin _ _ _ _ T4 (mkF m 10 #[.val (.int q1), .val (.int q2), .val (.int q3), .val (.int q4), .val (.int (own_f1 q1)), .unset, .unset, .unset, .unset, .unset, .unset] [(.int (own_f1 q2))])
  refine own_istore X4 hx (hb hby at_10) (pc' := 12) rfl (Ls' := #[.val (.int q1), .val (.int q2), .val (.int q3), .val (.int q4), .val (.int (own_f1 q1)), .val (.int (own_f1 q2)), .unset, .unset, .unset, .unset, .unset]) rfl ?_
  refine own_iloadN X4 hx (hb hby at_12) (pc' := 13) rfl rfl ?_
  obtain ⟨_, _, ⟨T5, L5, k5, n5⟩, -, X5, ⟨Lc5, hQ5, l5, y5, z5⟩, st5⟩ := Jvm.LawKit.callS X4 hx (y := (⟨"com/example/zhuanjie/zhuanjie/core/MessageIsResponsePinLaw", "digit", "(I)I"⟩ : MethodName)) hown (mvT hZ (hw _ (List.mem_of_getElem? (i := 0) rfl))) (mvT hZ (hw _ (List.mem_of_getElem? (i := 1) rfl))) (mvT hZ (hw _ (List.mem_of_getElem? (i := 2) rfl))) (mvT hZ (hw _ (List.mem_of_getElem? (i := 3) rfl))) (by decide) (backOf (W := 0) (rm1 l Z a0 hw [] q3 h0 n0 Z0 ) hZ (hw _ (List.mem_of_getElem? (i := 3) rfl)) (hw _ (List.mem_of_getElem? (i := 2) rfl)) (by decide) (by decide)) (g := (mkF m 13 #[.val (.int q1), .val (.int q2), .val (.int q3), .val (.int q4), .val (.int (own_f1 q1)), .val (.int (own_f1 q2)), .unset, .unset, .unset, .unset, .unset] [(.int q3)])) rfl (by rw [hml]; rfl) (argsL := [(.int q3)]) (rest := []) (lenOf pd_0 rfl) rfl (by show 2 * 0 + _ ≤ _; exact Nat.le_of_eq rfl) (hb hby at_13) (fun _ _ => ⟨rfl, e4', (by decide : 0 + 0 ≤ _), (by decide : 0 + 0 ≤ _)⟩)
  dsimp only [Pt.U, Pt.locs, Pt.cells, Pt.slots] at X5 l5 y5 z5 st5 hQ5
  subst l5 y5 z5
  obtain ⟨rfl, N5q, e5'⟩ := hQ5
  have N5 := Fr.app N4 N5q
  refine own_st ?_ st5
  show own_Fin _ _ _ _ T5 (mkF m 16 #[.val (.int q1), .val (.int q2), .val (.int q3), .val (.int q4), .val (.int (own_f1 q1)), .val (.int (own_f1 q2)), .unset, .unset, .unset, .unset, .unset] [(.int (own_f1 q3))])
  refine own_istore X5 hx (hb hby at_16) (pc' := 18) rfl (Ls' := #[.val (.int q1), .val (.int q2), .val (.int q3), .val (.int q4), .val (.int (own_f1 q1)), .val (.int (own_f1 q2)), .val (.int (own_f1 q3)), .unset, .unset, .unset, .unset]) rfl ?_
  refine own_iloadN X5 hx (hb hby at_18) (pc' := 19) rfl rfl ?_
  obtain ⟨_, _, ⟨T6, L6, k6, n6⟩, -, X6, ⟨Lc6, hQ6, l6, y6, z6⟩, st6⟩ := Jvm.LawKit.callS X5 hx (y := (⟨"com/example/zhuanjie/zhuanjie/core/MessageIsResponsePinLaw", "digit", "(I)I"⟩ : MethodName)) hown (mvT hZ (hw _ (List.mem_of_getElem? (i := 0) rfl))) (mvT hZ (hw _ (List.mem_of_getElem? (i := 1) rfl))) (mvT hZ (hw _ (List.mem_of_getElem? (i := 2) rfl))) (mvT hZ (hw _ (List.mem_of_getElem? (i := 3) rfl))) (by decide) (backOf (W := 0) (rm1 l Z a0 hw [] q4 h0 n0 Z0 ) hZ (hw _ (List.mem_of_getElem? (i := 3) rfl)) (hw _ (List.mem_of_getElem? (i := 2) rfl)) (by decide) (by decide)) (g := (mkF m 19 #[.val (.int q1), .val (.int q2), .val (.int q3), .val (.int q4), .val (.int (own_f1 q1)), .val (.int (own_f1 q2)), .val (.int (own_f1 q3)), .unset, .unset, .unset, .unset] [(.int q4)])) rfl (by rw [hml]; rfl) (argsL := [(.int q4)]) (rest := []) (lenOf pd_0 rfl) rfl (by show 2 * 0 + _ ≤ _; exact Nat.le_of_eq rfl) (hb hby at_19) (fun _ _ => ⟨rfl, e5', (by decide : 0 + 0 ≤ _), (by decide : 0 + 0 ≤ _)⟩)
  dsimp only [Pt.U, Pt.locs, Pt.cells, Pt.slots] at X6 l6 y6 z6 st6 hQ6
  subst l6 y6 z6
  obtain ⟨rfl, N6q, e6'⟩ := hQ6
  have N6 := Fr.app N5 N6q
  refine own_st ?_ st6
  show own_Fin _ _ _ _ T6 (mkF m 22 #[.val (.int q1), .val (.int q2), .val (.int q3), .val (.int q4), .val (.int (own_f1 q1)), .val (.int (own_f1 q2)), .val (.int (own_f1 q3)), .unset, .unset, .unset, .unset] [(.int (own_f1 q4))])
  refine own_istore X6 hx (hb hby at_22) (pc' := 24) rfl (Ls' := #[.val (.int q1), .val (.int q2), .val (.int q3), .val (.int q4), .val (.int (own_f1 q1)), .val (.int (own_f1 q2)), .val (.int (own_f1 q3)), .val (.int (own_f1 q4)), .unset, .unset, .unset]) rfl ?_
  refine own_iconst X6 hx (hb hby at_24) (pc' := 25) rfl (v := (4 : Int32)) rfl ?_
  obtain ⟨T7, h7, k7, X7, e7, E7, A7, st7⟩ := newP X6 hx hZ (hw _ (List.mem_of_getElem? (i := 5) rfl)) e6' (g := (mkF m 25 #[.val (.int q1), .val (.int q2), .val (.int q3), .val (.int q4), .val (.int (own_f1 q1)), .val (.int (own_f1 q2)), .val (.int (own_f1 q3)), .val (.int (own_f1 q4)), .unset, .unset, .unset] [(.int (4 : Int32))])) rfl (hb hby at_25) rfl (by decide) (cap := 4) (by decide) (by decide) (by decide) (by decide)
  obtain ⟨b7, g7⟩ : ∃ z, z = h0.size := ⟨_, rfl⟩
  rw [← g7] at A7 st7
  have g_b7 : n0 ≤ b7 := Nat.le_trans Z0 (Nat.le_of_eq g7.symm)
  have A_b7_7 : Arv Z h7 b7 k7 .byte (4 : Int32) [(.int (0 : Int32)), (.int (0 : Int32)), (.int (0 : Int32)), (.int (0 : Int32))] (.int (0 : Int32)) := (Arv.new A7 (by decide)).pad (pad_rep [] (.int (0 : Int32)) 4)
  have sz7 : n0 ≤ h7.size := Nat.le_trans Z0 E7.1
  refine own_st ?_ st7
  show own_Fin _ _ _ _ T7 (mkF m 27 #[.val (.int q1), .val (.int q2), .val (.int q3), .val (.int q4), .val (.int (own_f1 q1)), .val (.int (own_f1 q2)), .val (.int (own_f1 q3)), .val (.int (own_f1 q4)), .unset, .unset, .unset] [(.ref b7)])
  refine own_dup X7 hx (hb hby at_27) (pc' := 28) rfl rfl ?_
  refine own_iconst X7 hx (hb hby at_28) (pc' := 29) rfl (v := (0 : Int32)) rfl ?_
  refine own_bipush X7 hx (hb hby at_29) (pc' := 31) rfl (v := (48 : Int32)) rfl ?_
  refine own_iload X7 hx (hb hby at_31) (pc' := 33) rfl rfl ?_
  refine own_iadd X7 hx (hb hby at_33) (pc' := 34) rfl ?_
  refine own_i2b X7 hx (hb hby at_34) (pc' := 35) rfl ?_
  obtain ⟨cl8, Ar8, qa8, S8, M8, H8, G8⟩ := id A_b7_7
  have hin8 : ¬ ((0 : Int32) < 0 ∨ cl8.slots.size ≤ ((0 : Int32)).toNatClampNeg) := inb_of S8 ⟨by decide, by decide⟩
  obtain ⟨T8, h8, X8, e8, W8, st8⟩ := stB X7 hx hZ e7 Ar8 (j := (0 : Int32)) hin8 (g := (mkF m 35 #[.val (.int q1), .val (.int q2), .val (.int q3), .val (.int q4), .val (.int (own_f1 q1)), .val (.int (own_f1 q2)), .val (.int (own_f1 q3)), .val (.int (own_f1 q4)), .unset, .unset, .unset] [(.int (((48 : Int32) + (own_f1 q1)).toInt8.toInt32)), (.int (0 : Int32)), (.ref b7), (.ref b7)])) rfl rfl (hb hby at_35)
  have A_b7_8 : Arv Z h8 b7 k7 .byte (4 : Int32) [(.int (nar .byte (((48 : Int32) + (own_f1 q1)).toInt8.toInt32))), (.int (0 : Int32)), (.int (0 : Int32)), (.int (0 : Int32))] (.int (0 : Int32)) := Arv.set Ar8 qa8 S8 M8 H8 G8 (fits_nar_byte _) W8 0 rfl (Nat.le_of_ble_eq_true rfl)
  have N8 := Fr.snoc X8 N6 g_b7
  have sz8 : n0 ≤ h8.size := Nat.le_trans sz7 (Keep.of_wr W8).1
  refine own_st ?_ st8
  show own_Fin _ _ _ _ T8 (mkF m 36 #[.val (.int q1), .val (.int q2), .val (.int q3), .val (.int q4), .val (.int (own_f1 q1)), .val (.int (own_f1 q2)), .val (.int (own_f1 q3)), .val (.int (own_f1 q4)), .unset, .unset, .unset] [(.ref b7)])
  refine own_dup X8 hx (hb hby at_36) (pc' := 37) rfl rfl ?_
  refine own_iconst X8 hx (hb hby at_37) (pc' := 38) rfl (v := (1 : Int32)) rfl ?_
  refine own_bipush X8 hx (hb hby at_38) (pc' := 40) rfl (v := (48 : Int32)) rfl ?_
  refine own_iload X8 hx (hb hby at_40) (pc' := 42) rfl rfl ?_
  refine own_iadd X8 hx (hb hby at_42) (pc' := 43) rfl ?_
  refine own_i2b X8 hx (hb hby at_43) (pc' := 44) rfl ?_
  obtain ⟨cl9, Ar9, qa9, S9, M9, H9, G9⟩ := id A_b7_8
  have hin9 : ¬ ((1 : Int32) < 0 ∨ cl9.slots.size ≤ ((1 : Int32)).toNatClampNeg) := inb_of S9 ⟨by decide, by decide⟩
  obtain ⟨T9, h9, X9, e9, W9, st9⟩ := stB X8 hx hZ e8 Ar9 (j := (1 : Int32)) hin9 (g := (mkF m 44 #[.val (.int q1), .val (.int q2), .val (.int q3), .val (.int q4), .val (.int (own_f1 q1)), .val (.int (own_f1 q2)), .val (.int (own_f1 q3)), .val (.int (own_f1 q4)), .unset, .unset, .unset] [(.int (((48 : Int32) + (own_f1 q2)).toInt8.toInt32)), (.int (1 : Int32)), (.ref b7), (.ref b7)])) rfl rfl (hb hby at_44)
  have A_b7_9 : Arv Z h9 b7 k7 .byte (4 : Int32) [(.int (nar .byte (((48 : Int32) + (own_f1 q1)).toInt8.toInt32))), (.int (nar .byte (((48 : Int32) + (own_f1 q2)).toInt8.toInt32))), (.int (0 : Int32)), (.int (0 : Int32))] (.int (0 : Int32)) := Arv.set Ar9 qa9 S9 M9 H9 G9 (fits_nar_byte _) W9 1 rfl (Nat.le_of_ble_eq_true rfl)
  have N9 := Fr.snoc X9 N8 g_b7
  have sz9 : n0 ≤ h9.size := Nat.le_trans sz8 (Keep.of_wr W9).1
  refine own_st ?_ st9
  show own_Fin _ _ _ _ T9 (mkF m 45 #[.val (.int q1), .val (.int q2), .val (.int q3), .val (.int q4), .val (.int (own_f1 q1)), .val (.int (own_f1 q2)), .val (.int (own_f1 q3)), .val (.int (own_f1 q4)), .unset, .unset, .unset] [(.ref b7)])
  refine own_dup X9 hx (hb hby at_45) (pc' := 46) rfl rfl ?_
  refine own_iconst X9 hx (hb hby at_46) (pc' := 47) rfl (v := (2 : Int32)) rfl ?_
  refine own_bipush X9 hx (hb hby at_47) (pc' := 49) rfl (v := (48 : Int32)) rfl ?_
  refine own_iload X9 hx (hb hby at_49) (pc' := 51) rfl rfl ?_
  refine own_iadd X9 hx (hb hby at_51) (pc' := 52) rfl ?_
  refine own_i2b X9 hx (hb hby at_52) (pc' := 53) rfl ?_
  obtain ⟨cl10, Ar10, qa10, S10, M10, H10, G10⟩ := id A_b7_9
  have hin10 : ¬ ((2 : Int32) < 0 ∨ cl10.slots.size ≤ ((2 : Int32)).toNatClampNeg) := inb_of S10 ⟨by decide, by decide⟩
  obtain ⟨T10, h10, X10, e10, W10, st10⟩ := stB X9 hx hZ e9 Ar10 (j := (2 : Int32)) hin10 (g := (mkF m 53 #[.val (.int q1), .val (.int q2), .val (.int q3), .val (.int q4), .val (.int (own_f1 q1)), .val (.int (own_f1 q2)), .val (.int (own_f1 q3)), .val (.int (own_f1 q4)), .unset, .unset, .unset] [(.int (((48 : Int32) + (own_f1 q3)).toInt8.toInt32)), (.int (2 : Int32)), (.ref b7), (.ref b7)])) rfl rfl (hb hby at_53)
  have A_b7_10 : Arv Z h10 b7 k7 .byte (4 : Int32) [(.int (nar .byte (((48 : Int32) + (own_f1 q1)).toInt8.toInt32))), (.int (nar .byte (((48 : Int32) + (own_f1 q2)).toInt8.toInt32))), (.int (nar .byte (((48 : Int32) + (own_f1 q3)).toInt8.toInt32))), (.int (0 : Int32))] (.int (0 : Int32)) := Arv.set Ar10 qa10 S10 M10 H10 G10 (fits_nar_byte _) W10 2 rfl (Nat.le_of_ble_eq_true rfl)
  have N10 := Fr.snoc X10 N9 g_b7
  have sz10 : n0 ≤ h10.size := Nat.le_trans sz9 (Keep.of_wr W10).1
  refine own_st ?_ st10
  show own_Fin _ _ _ _ T10 (mkF m 54 #[.val (.int q1), .val (.int q2), .val (.int q3), .val (.int q4), .val (.int (own_f1 q1)), .val (.int (own_f1 q2)), .val (.int (own_f1 q3)), .val (.int (own_f1 q4)), .unset, .unset, .unset] [(.ref b7)])
  refine own_dup X10 hx (hb hby at_54) (pc' := 55) rfl rfl ?_
  refine own_iconst X10 hx (hb hby at_55) (pc' := 56) rfl (v := (3 : Int32)) rfl ?_
  refine own_bipush X10 hx (hb hby at_56) (pc' := 58) rfl (v := (48 : Int32)) rfl ?_
  refine own_iload X10 hx (hb hby at_58) (pc' := 60) rfl rfl ?_
  refine own_iadd X10 hx (hb hby at_60) (pc' := 61) rfl ?_
  refine own_i2b X10 hx (hb hby at_61) (pc' := 62) rfl ?_
  obtain ⟨cl11, Ar11, qa11, S11, M11, H11, G11⟩ := id A_b7_10
  have hin11 : ¬ ((3 : Int32) < 0 ∨ cl11.slots.size ≤ ((3 : Int32)).toNatClampNeg) := inb_of S11 ⟨by decide, by decide⟩
  obtain ⟨T11, h11, X11, e11, W11, st11⟩ := stB X10 hx hZ e10 Ar11 (j := (3 : Int32)) hin11 (g := (mkF m 62 #[.val (.int q1), .val (.int q2), .val (.int q3), .val (.int q4), .val (.int (own_f1 q1)), .val (.int (own_f1 q2)), .val (.int (own_f1 q3)), .val (.int (own_f1 q4)), .unset, .unset, .unset] [(.int (((48 : Int32) + (own_f1 q4)).toInt8.toInt32)), (.int (3 : Int32)), (.ref b7), (.ref b7)])) rfl rfl (hb hby at_62)
  have A_b7_11 : Arv Z h11 b7 k7 .byte (4 : Int32) [(.int (nar .byte (((48 : Int32) + (own_f1 q1)).toInt8.toInt32))), (.int (nar .byte (((48 : Int32) + (own_f1 q2)).toInt8.toInt32))), (.int (nar .byte (((48 : Int32) + (own_f1 q3)).toInt8.toInt32))), (.int (nar .byte (((48 : Int32) + (own_f1 q4)).toInt8.toInt32)))] (.int (0 : Int32)) := Arv.set Ar11 qa11 S11 M11 H11 G11 (fits_nar_byte _) W11 3 rfl (Nat.le_of_ble_eq_true rfl)
  have N11 := Fr.snoc X11 N10 g_b7
  have sz11 : n0 ≤ h11.size := Nat.le_trans sz10 (Keep.of_wr W11).1
  refine own_st ?_ st11
  show own_Fin _ _ _ _ T11 (mkF m 63 #[.val (.int q1), .val (.int q2), .val (.int q3), .val (.int q4), .val (.int (own_f1 q1)), .val (.int (own_f1 q2)), .val (.int (own_f1 q3)), .val (.int (own_f1 q4)), .unset, .unset, .unset] [(.ref b7)])
  refine own_astore X11 hx (hb hby at_63) (pc' := 65) rfl (Ls' := #[.val (.int q1), .val (.int q2), .val (.int q3), .val (.int q4), .val (.int (own_f1 q1)), .val (.int (own_f1 q2)), .val (.int (own_f1 q3)), .val (.int (own_f1 q4)), .val (.ref b7), .unset, .unset]) rfl rfl ?_
  refine own_aload X11 hx (hb hby at_65) (pc' := 67) rfl rfl rfl ?_
  obtain ⟨_, _, ⟨T12, L12, k12, n12⟩, -, X12, ⟨Lc12, hQ12, l12, y12, z12⟩, st12⟩ := Jvm.LawKit.callS X11 hx (y := (⟨"com/example/zhuanjie/zhuanjie/core/Message", "isResponse", "([B)Z"⟩ : MethodName)) hown (mvT hZ (hw _ (List.mem_of_getElem? (i := 6) rfl))) (mvT hZ (hw _ (List.mem_of_getElem? (i := 7) rfl))) (mvT hZ (hw _ (List.mem_of_getElem? (i := 8) rfl))) (mvT hZ (hw _ (List.mem_of_getElem? (i := 9) rfl))) (by decide) (backOf (W := 0) (rm2 l Z a0 hw [] b7 k7 (nar .byte (((48 : Int32) + (own_f1 q1)).toInt8.toInt32)) (nar .byte (((48 : Int32) + (own_f1 q2)).toInt8.toInt32)) (nar .byte (((48 : Int32) + (own_f1 q3)).toInt8.toInt32)) (nar .byte (((48 : Int32) + (own_f1 q4)).toInt8.toInt32)) h11 n0 sz11 A_b7_11) hZ (hw _ (List.mem_of_getElem? (i := 9) rfl)) (hw _ (List.mem_of_getElem? (i := 8) rfl)) (by decide) (by decide)) (g := (mkF m 67 #[.val (.int q1), .val (.int q2), .val (.int q3), .val (.int q4), .val (.int (own_f1 q1)), .val (.int (own_f1 q2)), .val (.int (own_f1 q3)), .val (.int (own_f1 q4)), .val (.ref b7), .unset, .unset] [(.ref b7)])) rfl (by rw [hml]; rfl) (argsL := [(.ref b7)]) (rest := []) (lenOf pd_1 rfl) rfl (by show 2 * 0 + _ ≤ _; exact Nat.le_of_eq rfl) (hb hby at_67) (fun _ _ => ⟨rfl, e11, (by decide : 1 + 0 ≤ _), (by decide : 4 + 0 ≤ _)⟩)
  dsimp only [Pt.U, Pt.locs, Pt.cells, Pt.slots] at X12 l12 y12 z12 st12 hQ12
  subst l12 y12 z12
  obtain ⟨rfl, N12q, e12'⟩ := hQ12
  have N12 := Fr.app N11 N12q
  refine own_st ?_ st12
  show own_Fin _ _ _ _ T12 (mkF m 70 #[.val (.int q1), .val (.int q2), .val (.int q3), .val (.int q4), .val (.int (own_f1 q1)), .val (.int (own_f1 q2)), .val (.int (own_f1 q3)), .val (.int (own_f1 q4)), .val (.ref b7), .unset, .unset] [(.int (own_f2 (nar .byte (((48 : Int32) + (own_f1 q1)).toInt8.toInt32)) (nar .byte (((48 : Int32) + (own_f1 q2)).toInt8.toInt32)) (nar .byte (((48 : Int32) + (own_f1 q3)).toInt8.toInt32)) (nar .byte (((48 : Int32) + (own_f1 q4)).toInt8.toInt32))))])
  refine own_istore X12 hx (hb hby at_70) (pc' := 72) rfl (Ls' := #[.val (.int q1), .val (.int q2), .val (.int q3), .val (.int q4), .val (.int (own_f1 q1)), .val (.int (own_f1 q2)), .val (.int (own_f1 q3)), .val (.int (own_f1 q4)), .val (.ref b7), .val (.int (own_f2 (nar .byte (((48 : Int32) + (own_f1 q1)).toInt8.toInt32)) (nar .byte (((48 : Int32) + (own_f1 q2)).toInt8.toInt32)) (nar .byte (((48 : Int32) + (own_f1 q3)).toInt8.toInt32)) (nar .byte (((48 : Int32) + (own_f1 q4)).toInt8.toInt32)))), .unset]) rfl ?_
  refine own_cast ?_ (sg0_72 l hw hx hZ hby hml hown hnm hret hlk q1 q2 q3 q4 (own_f1 q1) (own_f1 q2) (own_f1 q3) (own_f1 q4) b7 (own_f2 (nar .byte (((48 : Int32) + (own_f1 q1)).toInt8.toInt32)) (nar .byte (((48 : Int32) + (own_f1 q2)).toInt8.toInt32)) (nar .byte (((48 : Int32) + (own_f1 q3)).toInt8.toInt32)) (nar .byte (((48 : Int32) + (own_f1 q4)).toInt8.toInt32))) sz11 X12 N12 e12')
  rw [own_f0]
theorem ef_0 (m : MethodId) (q1 : Int32) (q2 : Int32) (q3 : Int32) (q4 : Int32) : entryFrame m #[(.int q1), (.int q2), (.int q3), (.int q4)] maxLocals = mkF m 0 #[.val (.int q1), .val (.int q2), .val (.int q3), .val (.int q4), .unset, .unset, .unset, .unset, .unset, .unset, .unset] [] := by first | (simp [entryFrame, mkF, argsToLocals, Value.category, maxLocals]; done) | rfl
set_option maxRecDepth 65536 in
set_option maxHeartbeats 40000000 in
theorem rm0 (l : Launch) (Z : State) (a0 : Array Value) (hw : ∀ d ∈ tables_1, d.before a0 Z = true) (ws : List Jvm.Cond) (q1 : Int32) (q2 : Int32) (q3 : Int32) (q4 : Int32) (h0 : Heap) (n0 : Nat) (Z0 : n0 ≤ h0.size)  (own_law : ∀ (q1 : Int32) (q2 : Int32) (q3 : Int32) (q4 : Int32), (own_f0 q1 q2 q3 q4) = 1) :
    MetFree l x (head1 (Jvm.Cond.code x code maxLocals ret :: ws) room_1) (fun a U => a = #[(.int q1), (.int q2), (.int q3), (.int q4)] ∧ Z.Warmed39 U.vm ∧ U.heap = h0) (fun _ _ _ _ _ => True) (fun _ U o U' => ∃ v L, o = .returned v ∧ (own_L n0 (.int 1)) v U'.heap L ∧ FrameEnd U o U' L 1 4) := by
  refine MetFree.of_bodySF (plainFor_of_name pn_0) hisR ?_
  intro p e s m args below meth c s₁ Bd hml0 hP hK
  obtain ⟨rfl, hZ, hh⟩ := hP
  have hown : s.vm.findClass "com/example/zhuanjie/zhuanjie/core/MessageIsResponsePinLaw" = some m.cls := findClass_of_methodNamed Bd.named
  have hnm := (name_of_methodNamed Bd.named Bd.method).1
  have X0 : Stand p l e room_1 s m #[(.int q1), (.int q2), (.int q3), (.int q4)] below meth c s₁ [] 0 0 := Stand.of_body Bd
  have e0 : s₁.heap = h0 := by rw [← hh, Bd.state]; rfl
  have H := sg0_0 l hw Bd.exec hZ Bd.bytes hml0 hown hnm Bd.returns Bd.notSynchronized q1 q2 q3 q4 Z0 X0 (Fr.nil n0) e0
  rw [own_law] at H
  obtain ⟨t, h1, h2, o, h3, h4⟩ := H
  exact ⟨t, o, castTop (ef_0 m q1 q2 q3 q4) h1, h2, h3, h4⟩
theorem own_b64 (x : Int64) : -9223372036854775808 ≤ x.toInt ∧ x.toInt < 9223372036854775808 := ⟨Int64.le_toInt x, Int64.toInt_lt x⟩
theorem own_b32 (x : Int32) : -2147483648 ≤ x.toInt ∧ x.toInt < 2147483648 := ⟨Int32.le_toInt x, Int32.toInt_lt x⟩
theorem own_wrap64 (n : Int) : ∃ k : Int, n.bmod (2 ^ 64) = n + k * 18446744073709551616 := by
  rw [Int.bmod_def]
  split
  · exact ⟨-(n / 18446744073709551616), by omega⟩
  · exact ⟨-(n / 18446744073709551616) - 1, by omega⟩
theorem own_add64 (x y : Int64) : ∃ k : Int, (x + y).toInt = x.toInt + y.toInt + k * 18446744073709551616 := by
  rw [Int64.toInt_add]; exact own_wrap64 _
theorem own_sub64 (x y : Int64) : ∃ k : Int, (x - y).toInt = x.toInt - y.toInt + k * 18446744073709551616 := by
  rw [Int64.toInt_sub]; exact own_wrap64 _
theorem own_wrap32 (n : Int) : ∃ k : Int, n.bmod (2 ^ 32) = n + k * 4294967296 := by
  rw [Int.bmod_def]
  split
  · exact ⟨-(n / 4294967296), by omega⟩
  · exact ⟨-(n / 4294967296) - 1, by omega⟩
theorem own_add32 (x y : Int32) : ∃ k : Int, (x + y).toInt = x.toInt + y.toInt + k * 4294967296 := by
  rw [Int32.toInt_add]; exact own_wrap32 _
theorem own_sub32 (x y : Int32) : ∃ k : Int, (x - y).toInt = x.toInt - y.toInt + k * 4294967296 := by
  rw [Int32.toInt_sub]; exact own_wrap32 _
theorem own_m63 (x : Int64) : (x &&& (9223372036854775807 : Int64)).toInt = x.toInt % 9223372036854775808 := Jvm.Kit.i64_mask x _ (k := 63) (by decide) (by decide)
theorem own_m31 (x : Int32) : (x &&& (2147483647 : Int32)).toInt = x.toInt % 2147483648 := Jvm.Kit.i32_mask x _ (k := 31) (by decide) (by decide)
theorem own_max64 : (9223372036854775807 : Int64).toInt = 9223372036854775807 := by decide
theorem own_lt64 {x y : Int64} : x < y ↔ x.toInt < y.toInt := Int64.lt_iff_toInt_lt
theorem own_lt32 {x y : Int32} : x < y ↔ x.toInt < y.toInt := Int32.lt_iff_toInt_lt
theorem own_eq64 {x y : Int64} : x = y ↔ x.toInt = y.toInt := Int64.toInt_inj.symm
theorem own_eq32 {x y : Int32} : x = y ↔ x.toInt = y.toInt := Int32.toInt_inj.symm
theorem own_rem32 (x y : Int32) (hx : 0 ≤ x.toInt) (hy : 0 < y.toInt) : (x - x / y * y).toInt = x.toInt % y.toInt := by
  have bx := own_b32 x; have by' := own_b32 y
  have hd : (x / y).toInt = x.toInt / y.toInt := by
    rw [Jvm.Kit.i32_div (by omega), Int.tdiv_eq_ediv_of_nonneg hx]
  have h1 : 0 ≤ x.toInt / y.toInt := Int.ediv_nonneg hx (by omega)
  have h2 : x.toInt / y.toInt * y.toInt ≤ x.toInt := Int.ediv_mul_le _ (by omega)
  have h3 : 0 ≤ x.toInt / y.toInt * y.toInt := Int.mul_nonneg h1 (by omega)
  have h4 : x.toInt % y.toInt = x.toInt - x.toInt / y.toInt * y.toInt := by rw [Int.emod_def, Int.mul_comm]
  have hm : (x / y * y).toInt = x.toInt / y.toInt * y.toInt := by
    rw [Jvm.Kit.i32_mul (by rw [hd]; omega) (by rw [hd]; omega), hd]
  rw [Jvm.Kit.i32_sub (by rw [hm]; omega) (by rw [hm]; omega), hm, h4]

theorem own_dig (q : Int32) : 0 ≤ (own_f1 q).toInt ∧ (own_f1 q).toInt ≤ 9 := by
  have h := own_m31 q
  have e10 : (10 : Int32).toInt = 10 := by decide
  unfold own_f1
  rw [own_rem32 _ _ (by omega) (by omega), e10]
  omega
theorem own_k (d : Int32) (h : 0 ≤ d.toInt ∧ d.toInt ≤ 9) : d = 0 ∨ d = 1 ∨ d = 2 ∨ d = 3 ∨ d = 4 ∨ d = 5 ∨ d = 6 ∨ d = 7 ∨ d = 8 ∨ d = 9 := by
  simp only [own_eq32]
  have e0 : (0 : Int32).toInt = 0 := by decide
  have e1 : (1 : Int32).toInt = 1 := by decide
  have e2 : (2 : Int32).toInt = 2 := by decide
  have e3 : (3 : Int32).toInt = 3 := by decide
  have e4 : (4 : Int32).toInt = 4 := by decide
  have e5 : (5 : Int32).toInt = 5 := by decide
  have e6 : (6 : Int32).toInt = 6 := by decide
  have e7 : (7 : Int32).toInt = 7 := by decide
  have e8 : (8 : Int32).toInt = 8 := by decide
  have e9 : (9 : Int32).toInt = 9 := by decide
  omega
theorem own_law (q1 q2 q3 q4 : Int32) : own_f0 q1 q2 q3 q4 = 1 := by
  have h := own_k _ (own_dig q3)
  unfold own_f0 own_f0_72 own_f2
  generalize own_f1 q3 = d at *
  rcases h with rfl | rfl | rfl | rfl | rfl | rfl | rfl | rfl | rfl | rfl <;> decide
set_option maxRecDepth 65536 in
set_option maxHeartbeats 40000000 in
theorem comes_1 {Post : Tables → Env → Array Value → State → Outcome → State → Prop} (hpost : ∀ tb e args s v u, (limb_1_1.after args s (.returned v) u = true ∧ limb_1_2.after args s (.returned v) u = true ∧ True) → FrameEnd s (.returned v) u (Jvm.fieldLocs frame_1_writes args s ++ Jvm.arrayLocs frame_1_arrays args s ++ Jvm.staticLocs frame_1_statics s) 16 128 → Post tb e args s (.returned v) u) :
    ArmFor flags0 classFile x code maxLocals ret World_1 tables_1 room_1 Calls_1 rest_1 Pre_1 Post := by
  intro l hfl _ _ p e ha hc hk s m args below hf hA hF happ hP
  obtain ⟨hcalls, hrest, hpre⟩ := hP
  obtain ⟨-, -, -, hnamed, -, -, -, hat⟩ := (Spec.applies_iff hf).mp happ
  obtain ⟨hg, hn⟩ := and_e (Cond.before_iff.mp (show (Jvm.Cond.and given_1 narrow_1).before args s = true from hpre))
  obtain ⟨gc, g0⟩ := and_e hg
  obtain ⟨gv0, g1⟩ := and_e g0
  obtain ⟨gv1, g2⟩ := and_e g1
  obtain ⟨gv2, g3⟩ := and_e g2
  have gv3 := g3
  obtain ⟨w0, w1, w2, w3, rfl⟩ : ∃ w0 w1 w2 w3 : Value, args = #[w0, w1, w2, w3] := by
    have hs : args.size = 4 := by simpa [Cond.value, given_1] using gc
    obtain ⟨L⟩ := args
    match L, hs with
    | [w0, w1, w2, w3], _ => exact ⟨w0, w1, w2, w3, rfl⟩
  have hw := fun d (hd : d ∈ tables_1) => atoms_spec (ws := Jvm.Cond.code x code maxLocals ret :: tables_1) hat d (List.mem_cons_of_mem _ hd)
  obtain ⟨i0, ei0⟩ := is_v gv0
  obtain rfl : w0 = (.int i0) := Option.some.inj ei0
  obtain ⟨i1, ei1⟩ := is_v gv1
  obtain rfl : w1 = (.int i1) := Option.some.inj ei1
  obtain ⟨i2, ei2⟩ := is_v gv2
  obtain rfl : w2 = (.int i2) := Option.some.inj ei2
  obtain ⟨i3, ei3⟩ := is_v gv3
  obtain rfl : w3 = (.int i3) := Option.some.inj ei3
  obtain ⟨n, o, h1, h2, h3, _, L, rfl, ⟨rfl, N⟩, hq⟩ := rm0 l s _ hw tables_1 i0 i1 i2 i3 s.heap s.heap.size (Nat.le_refl _) own_law p e ha hc hk s m _ below hf ((Spec.applies_iff_loose hf).mp happ).1 ⟨rfl, State.Warmed39.refl s, rfl⟩ trivial
  refine ⟨n, _, h1, h2, h3, hpost _ _ _ _ _ _ ⟨Cond.after_iff.mpr rfl, Cond.after_iff.mpr (eq_i res_at (Term.int_eval (1)) rfl), trivial⟩ ⟨hq.1, hq.2.1, (hq.2.2.sift fun y hy => Or.inr (N y hy)).mono (by decide) (by decide)⟩⟩
theorem main_1_1 : Claimed_1_1 := comes_1 fun _ _ _ _ _ _ h hF => ⟨h.1, hF⟩
theorem main_1_2 : Claimed_1_2 := comes_1 fun _ _ _ _ _ _ h hF => ⟨h.2.1, hF⟩
end Jvm.Pilot.@@N@@
namespace Jvm.Pilot.@@N@@
open Jvm Jvm.ClassFile Sem Op Lib Jvm.Free Jvm.Stand Jvm.Pilot.@@N@@.Jvm.D
/-! MADE BY PROGRAM (witnessworld.py) out of the Statement's table words and the real class files: 9 classes; the members and pool entries that the words name. The judged class is class 1, her method 2. -/
namespace start1
open Jvm.ClassFile
def u (s : String) : CpInfo := .utf8 (stringToUtf16 s)
/-- a pool by its gaps: so many unusable entries, then the entry; so many at the end -/
def gap : Nat → List CpInfo → List CpInfo
  | 0, r => r
  | n + 1, r => .unusable :: gap n r
def poolList (es : List (Nat × CpInfo)) (last : Nat) : List CpInfo := es.foldr (fun e r => gap e.1 (e.2 :: r)) (gap last [])
def pool (es : List (Nat × CpInfo)) (last : Nat) : Array CpInfo := ⟨poolList es last⟩
def fileOf (pool : Array CpInfo) (this : Nat) (attrs : Array Attribute := #[]) (ms : Array MethodInfo := #[]) (fl : Nat := 33) (sup : Nat := 0) (ifs : Array Nat := #[]) (fds : Array FieldInfo := #[]) : ClassFile where
  minorVersion := 0
  majorVersion := 65
  constantPool := pool
  accessFlags := fl
  thisClass := this
  superClass := sup
  interfaces := ifs
  fields := fds
  methods := ms
  attributes := attrs
def plain (name : String) (sup : Option ClassId) : Class where
  name := name
  kind := .ordinary
  loader := none
  accessFlags := 33
  super := sup
  interfaces := #[]
  cf := none
  fields := #[]
  methods := #[]
  instanceTypes := #[]
  staticTypes := #[]
  resolved := #[]
  callSites := []
  init := .initialized
  statics := none
  mirror := none

def pool0 : Array CpInfo := pool [(5, u "<init>"), (0, u "()V"), (1, .class_ 10), (1, u "java/lang/Object")] 113

def k0m0 : Method := { name := "<init>", desc := "()V", sig := { parameters := [], returnType := none }, accessFlags := 1, code := none }
/-- java/lang/Object -/
def k0 : Class := { plain "java/lang/Object" none with
  accessFlags := 33
  interfaces := #[]
  cf := some (fileOf pool0 8 #[] #[{ accessFlags := 1, nameIndex := 5, descriptorIndex := 6, attributes := #[] }] 33 0 #[] #[])
  fields := #[]
  methods := #[k0m0]
  instanceTypes := #[]
  staticTypes := #[]
  resolved := Array.replicate 124 none
  statics := none }

def pool1 : Array CpInfo := pool [(2, .class_ 4), (1, u "java/lang/Object"), (0, u "<init>"), (0, u "()V"), (0, .integer 2147483647), (0, .methodref 9 10), (0, .class_ 11), (0, .nameAndType 12 13), (0, u "com/example/zhuanjie/zhuanjie/core/MessageIsResponsePinLaw"), (0, u "digit"), (0, u "(I)I"), (0, .methodref 15 16), (0, .class_ 17), (0, .nameAndType 18 19), (0, u "com/example/zhuanjie/zhuanjie/core/Message"), (0, u "isResponse"), (0, u "([B)Z"), (2, u "law"), (0, u "(IIII)Z")] 5

def k1m0 : Method := { name := "<init>", desc := "()V", sig := { parameters := [], returnType := none }, accessFlags := 2, code := none }
def k1c1 : Code := { maxStack := 2, maxLocals := 1, code := method_2_code, exceptionTable := #[], attributes := #[] }
def k1m1 : Method := { name := "digit", desc := "(I)I", sig := { parameters := [.int], returnType := some .int }, accessFlags := 10, code := some k1c1 }
def k1c2 : Code := { maxStack := 5, maxLocals := 11, code := code, exceptionTable := #[], attributes := #[] }
def k1m2 : Method := { name := "law", desc := "(IIII)Z", sig := { parameters := [.int, .int, .int, .int], returnType := some .boolean }, accessFlags := 9, code := some k1c2 }
/-- com/example/zhuanjie/zhuanjie/core/MessageIsResponsePinLaw -/
def k1 : Class := { plain "com/example/zhuanjie/zhuanjie/core/MessageIsResponsePinLaw" (some 0) with
  accessFlags := 49
  interfaces := #[]
  cf := some (fileOf pool1 9 #[] #[{ accessFlags := 2, nameIndex := 5, descriptorIndex := 6, attributes := #[] }, { accessFlags := 10, nameIndex := 12, descriptorIndex := 13, attributes := #[] }, { accessFlags := 9, nameIndex := 22, descriptorIndex := 23, attributes := #[] }] 49 2 #[] #[])
  fields := #[]
  methods := #[k1m0, k1m1, k1m2]
  instanceTypes := #[]
  staticTypes := #[]
  resolved := Array.replicate 29 none
  statics := none }

def pool2 : Array CpInfo := pool [(2, .class_ 4), (1, u "java/lang/Object"), (3, .class_ 10), (1, u "com/example/zhuanjie/zhuanjie/core/Message$Builder"), (0, u "header"), (0, u "Lcom/example/zhuanjie/zhuanjie/core/Header;"), (1, .class_ 15), (0, u "com/example/zhuanjie/zhuanjie/core/Message"), (2, u "type"), (0, u "[B"), (3, u "fields"), (0, u "[[B"), (8, u "read"), (36, u "isResponse"), (0, u "([B)Z")] 42

def k2c0 : Code := { maxStack := 2, maxLocals := 1, code := prog_79_method_8_code, exceptionTable := #[], attributes := #[] }
def k2m0 : Method := { name := "isResponse", desc := "([B)Z", sig := { parameters := [(.array .byte)], returnType := some .boolean }, accessFlags := 8, code := some k2c0 }
/-- com/example/zhuanjie/zhuanjie/core/Message -/
def k2 : Class := { plain "com/example/zhuanjie/zhuanjie/core/Message" (some 0) with
  accessFlags := 49
  interfaces := #[]
  cf := some (fileOf pool2 14 #[.nestMembers #[8]] #[{ accessFlags := 8, nameIndex := 70, descriptorIndex := 71, attributes := #[] }] 49 2 #[] #[{ accessFlags := 18, nameIndex := 11, descriptorIndex := 12, attributes := #[] }, { accessFlags := 18, nameIndex := 18, descriptorIndex := 19, attributes := #[] }, { accessFlags := 18, nameIndex := 23, descriptorIndex := 24, attributes := #[] }, { accessFlags := 18, nameIndex := 33, descriptorIndex := 19, attributes := #[] }])
  fields := #[{ name := "header", type := (.object "com/example/zhuanjie/zhuanjie/core/Header"), accessFlags := 18, slot := 0, constantValue := 0 }, { name := "type", type := (.array .byte), accessFlags := 18, slot := 1, constantValue := 0 }, { name := "fields", type := (.array (.array .byte)), accessFlags := 18, slot := 2, constantValue := 0 }, { name := "read", type := (.array .byte), accessFlags := 18, slot := 3, constantValue := 0 }]
  methods := #[k2m0]
  instanceTypes := #[(.object "com/example/zhuanjie/zhuanjie/core/Header"), (.array .byte), (.array (.array .byte)), (.array .byte)]
  staticTypes := #[]
  resolved := Array.replicate 114 none
  statics := none }

def pool3 : Array CpInfo := pool [(1, u "java/lang/Cloneable"), (0, .class_ 1), (0, u "java/lang/Object"), (0, .class_ 3)] 3

/-- java/lang/Cloneable -/
def k3 : Class := { plain "java/lang/Cloneable" (some 0) with
  accessFlags := 1537
  interfaces := #[]
  cf := some (fileOf pool3 2 #[] #[] 1537 4 #[] #[])
  fields := #[]
  methods := #[]
  instanceTypes := #[]
  staticTypes := #[]
  resolved := Array.replicate 8 none
  statics := none }

def pool4 : Array CpInfo := pool [(1, u "java/io/Serializable"), (0, .class_ 1), (0, u "java/lang/Object"), (0, .class_ 3)] 3

/-- java/io/Serializable -/
def k4 : Class := { plain "java/io/Serializable" (some 0) with
  accessFlags := 1537
  interfaces := #[]
  cf := some (fileOf pool4 2 #[] #[] 1537 4 #[] #[])
  fields := #[]
  methods := #[]
  instanceTypes := #[]
  staticTypes := #[]
  resolved := Array.replicate 8 none
  statics := none }

/-- the primitive byte -/
def k5 : Class := { plain "byte" none with kind := .primitive 'B', accessFlags := 0x411 }
/-- [B -/
def k6 : Class := { plain "[B" (some 0) with kind := .array 5 .byte, interfaces := #[3, 4], accessFlags := 1041 }

/-- the primitive int -/
def k7 : Class := { plain "int" none with kind := .primitive 'I', accessFlags := 0x411 }
/-- [I -/
def k8 : Class := { plain "[I" (some 0) with kind := .array 7 .int, interfaces := #[3, 4], accessFlags := 1041 }

def heap : Heap := #[]
def classes : Array Class := #[k0, k1, k2, k3, k4, k5, k6, k7, k8]
def interned : List (Array UInt16 × Addr) := []
def slotsUsed : Nat := 0
def theMethod : MethodId := ⟨1, 2⟩
def args0 : Array Value := #[.int 500, .int 3, .int 3, .int 3]
def aboutOver (below : List Frame) : State where
  vm := { classes := classes, interned := interned.toArray }
  heap := heap
  slotsUsed := slotsUsed
  threads := #[{ frames := .invoking theMethod args0 :: below }]
def below0 : List Frame := [.native { method := ⟨0, 0⟩, args := #[] }]
def about1 : State := aboutOver below0
def p0 : Program := .bare "" "" ""
def e0 : Env := launch0.env 0 0 0
theorem w_frames : about1.frames = Frame.invoking theMethod args0 :: below0 := rfl
set_option maxRecDepth 65536 in
theorem w_args : argsFit about1.vm theMethod args0 = true := by decide +kernel
set_option maxRecDepth 65536 in
theorem w_heap : heapFits about1 = true := by decide +kernel
set_option maxRecDepth 65536 in
theorem w_runnable : about1.curStatus? = some .runnable := by decide +kernel
set_option maxRecDepth 65536 in
theorem w_alone : about1.alone = true := by decide +kernel
set_option maxRecDepth 65536 in
theorem w_named : about1.methodNamed? x = some theMethod := by decide +kernel
set_option maxRecDepth 65536 in
theorem w_hears : about1.hears theMethod below0 = true := by decide +kernel
set_option maxRecDepth 65536 in
theorem w_ripe : about1.ripe theMethod args0 below0 = true := by decide +kernel
theorem w_running : about1.status = .running := rfl
set_option maxRecDepth 65536 in
theorem w_room : about1.hasRoom e0.platform room_1 = true :=
  launch0.hasRoom_least _ room_1 (by decide +kernel) (by decide +kernel) (by decide +kernel) (by decide +kernel) (by decide +kernel) (by decide +kernel)
theorem allAtoms_all (ts : List Jvm.Cond) (a : Array Jvm.Value) (st : Jvm.State) : (allAtoms ts).before a st = ts.all (fun c => c.before a st) := by
  induction ts with
  | nil => rfl
  | cons c t ih =>
    show (Jvm.Cond.and c (allAtoms t)).before a st = _
    rw [Jvm.Cond.before_and, ih, List.all_cons]
def words1 : List Jvm.Cond := Jvm.Cond.code x code maxLocals ret :: tables_1
/-- a 'code' word, met by the world's own term for the bytes: nothing is compared byte by byte -/
theorem code_word {y : MethodName} {bytes : ByteArray} {mx : Nat} {rt : Option FieldType} {a : Array Value} {s : State} {m : MethodId} {meth : Method} {c : Code} (h1 : s.methodNamed? y = some m) (h2 : s.vm.method? m = some meth) (h3 : meth.code = some c) (h4 : c.code = bytes)
    (h5 : (c.maxLocals == mx && c.exceptionTable.isEmpty && decide (c.maxStack ≤ mostOperands) && decide (meth.sig.returnType = rt) && !meth.locks && decide (parseMethodDescriptor y.desc = some meth.sig)) = true) : (Jvm.Cond.code y bytes mx rt).before a s = true := by
  simp only [Bool.and_eq_true, beq_iff_eq, Bool.not_eq_true', decide_eq_true_eq] at h5
  obtain ⟨⟨⟨⟨⟨g1, g2⟩, g3⟩, g4⟩, g5⟩, g6⟩ := h5
  simp [Cond.before, Cond.holds, Cond.value, h1, h2, h3, h4, g1, g2, g3, g4, g5, g6]
def isCode : Jvm.Cond → Bool
  | .code _ _ _ _ => true
  | _ => false
theorem all_split {L : List Jvm.Cond} {P : Jvm.Cond → Bool} (h1 : L.all (fun c => isCode c || P c) = true) (h2 : ∀ c ∈ L.filter isCode, P c = true) : L.all P = true := by
  refine List.all_eq_true.mpr fun c hc => ?_
  have h := List.all_eq_true.mp h1 c hc
  rcases Bool.eq_false_or_eq_true (isCode c) with hi | hi
  · exact h2 c (List.mem_filter.mpr ⟨hc, hi⟩)
  · simpa [hi] using h
set_option maxRecDepth 65536 in
theorem w_c0 : (Jvm.Cond.code x code maxLocals ret).before args0 about1 = true := code_word (m := ⟨1, 2⟩) (meth := k1m2) (c := k1c2) (by decide +kernel) rfl rfl rfl (by decide +kernel)
set_option maxRecDepth 65536 in
theorem w_c1 : (Jvm.Cond.code ({ cls := "com/example/zhuanjie/zhuanjie/core/MessageIsResponsePinLaw", name := "digit", desc := "(I)I" } : Jvm.MethodName) method_2_code (1 : Nat) (Option.some Jvm.ClassFile.FieldType.int)).before args0 about1 = true := code_word (m := ⟨1, 1⟩) (meth := k1m1) (c := k1c1) (by decide +kernel) rfl rfl rfl (by decide +kernel)
set_option maxRecDepth 65536 in
theorem w_c2 : (Jvm.Cond.code ({ cls := "com/example/zhuanjie/zhuanjie/core/Message", name := "isResponse", desc := "([B)Z" } : Jvm.MethodName) prog_79_method_8_code (1 : Nat) (Option.some Jvm.ClassFile.FieldType.boolean)).before args0 about1 = true := code_word (m := ⟨2, 0⟩) (meth := k2m0) (c := k2c0) (by decide +kernel) rfl rfl rfl (by decide +kernel)
def codes1 : List Jvm.Cond := [Jvm.Cond.code x code maxLocals ret, Jvm.Cond.code ({ cls := "com/example/zhuanjie/zhuanjie/core/MessageIsResponsePinLaw", name := "digit", desc := "(I)I" } : Jvm.MethodName) method_2_code (1 : Nat) (Option.some Jvm.ClassFile.FieldType.int), Jvm.Cond.code ({ cls := "com/example/zhuanjie/zhuanjie/core/Message", name := "isResponse", desc := "([B)Z" } : Jvm.MethodName) prog_79_method_8_code (1 : Nat) (Option.some Jvm.ClassFile.FieldType.boolean)]
set_option maxRecDepth 65536 in
theorem codes_eq : words1.filter isCode = codes1 := rfl
theorem w_codes : ∀ c ∈ words1.filter isCode, c.before args0 about1 = true := by
  rw [codes_eq]
  intro c hc
  simp only [codes1, List.mem_cons, List.not_mem_nil, or_false] at hc
  rcases hc with rfl | rfl | rfl
  · exact w_c0
  · exact w_c1
  · exact w_c2
set_option maxRecDepth 65536 in
theorem w_t1 : words1.all (fun c => isCode c || c.before args0 about1) = true := by decide +kernel
theorem w_tables : (allAtoms (Jvm.Cond.code x code maxLocals ret :: tables_1)).before args0 about1 = true := by
  rw [allAtoms_all]
  show words1.all (fun c => c.before args0 about1) = true
  refine all_split ?_ w_codes
  rw [w_t1]
set_option maxRecDepth 65536 in
theorem w_case : (Jvm.Cond.and given_1 narrow_1).before args0 about1 = true := by decide +kernel
theorem w_applies : (headSpec (Jvm.Cond.code x code maxLocals ret :: tables_1) room_1).applies x e0.platform about1 = true :=
  (Spec.applies_iff w_frames).mpr ⟨w_running, w_runnable, w_alone, w_named, w_hears, w_ripe, w_room, w_tables⟩
theorem atStart : AtStart classFile x code maxLocals ret World_1 tables_1 room_1 Calls_1 rest_1 Pre_1 launch0 p0 e0 about1 theMethod args0 below0 :=
  ⟨lists_1, trivial, launch0.admits_env _ _ _, launch0.least_env, fairChoices_fair.cas, fairChoices_fair.clock, w_frames, w_args, w_heap, w_applies, trivial, trivial, w_case⟩
end start1
theorem witness_1 : WitnessClaimed_1 := ⟨start1.p0, start1.e0, start1.about1, start1.theMethod, start1.args0, start1.below0, start1.atStart⟩
end Jvm.Pilot.@@N@@
